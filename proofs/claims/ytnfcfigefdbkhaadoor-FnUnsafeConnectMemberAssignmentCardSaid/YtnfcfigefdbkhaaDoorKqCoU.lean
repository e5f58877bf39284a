/- What the things of this program share whose version lies ahead of them. -/
import Derived.Test.YtnfcfigefdbkhaaDoorKqCoT
import Derived.Test.YtnfcfigefdbkhaaDoorKqP04
set_option linter.unusedVariables false
set_option linter.unusedSimpArgs false
namespace Go.Proofs.YtnfcfigefdbkhaaDoor
open Go.Kq
theorem sameTree:∀ t,SameCall Tryd.prog 15 t :=
  sametree_m (z:=zT) (z2:=zG) (et1:=26) (et2:=68) (bs1:=88) (bs2:=32) Tryd.func15 (by kernel_rfl) rfl rfl rfl (fBi (by kernel_rfl)) rfl (fBi (by kernel_rfl)) rfl (by kernel_rfl) (by kernel_rfl) (by kernel_rfl) (by kernel_rfl) (by kernel_rfl) (by kernel_rfl) (by kernel_rfl) (by kernel_rfl) (by kernel_rfl) (by kernel_rfl) sameM (by kernel_rfl) (by kernel_rfl)
theorem keptA (fs:List Kq.Fd) (h:freeAll fs=true):KeptM Tryd.prog 8 fs (partW fs) :=
  kept_m (te:=5) Tryd.func8 (by kernel_rfl) rfl rfl rfl (by kernel_rfl) octT (fBi (by kernel_rfl)) (fBi (by kernel_rfl)) (by kernel_rfl) (by kernel_rfl) wFix (wWrite fs h)
end Go.Proofs.YtnfcfigefdbkhaaDoor
