/- What all messages of this program share, when they are written, read and told. -/
import Derived.Test.YtnfcfigefdbkhaaDoorKqSwr
import Derived.Test.YtnfcfigefdbkhaaDoorKqP02
import Derived.Test.YtnfcfigefdbkhaaDoorKqP04
import Derived.Test.YtnfcfigefdbkhaaDoorKqP03
import Derived.Deep.LoopGhost
import Derived.ChangeArms
import Derived.Laws.IdiomCopy
import Derived.Test.YtnfcfigefdbkhaaDoorKqP01
set_option linter.unusedVariables false
set_option linter.unusedSimpArgs false
namespace Go.Proofs.YtnfcfigefdbkhaaDoor
open Go.Kq
theorem treeT:TreeTys Tryd.prog 35 32:=⟨fBi (by kernel_rfl),by kernel_rfl,by kernel_rfl,by kernel_rfl,zeroB_is (by kernel_rfl)⟩
theorem gotM:∀ t,GotCall Tryd.prog 11 t :=
  got_m (bs:=88) (bs2:=88) (bs3:=32) (bs4:=32) Tryd.func11 (by kernel_rfl) rfl rfl rfl (fBi (by kernel_rfl)) (fBi (by kernel_rfl)) (zeroB_is (by kernel_rfl)) (fBi (by kernel_rfl)) (fBi (by kernel_rfl)) (zeroB_is (by kernel_rfl)) (by kernel_rfl) (by kernel_rfl) (by kernel_rfl) (by kernel_rfl) (by kernel_rfl) (by kernel_rfl) (by kernel_rfl) (by kernel_rfl) (by kernel_rfl) (by kernel_rfl) (by kernel_rfl) (by kernel_rfl) (by decide) (by decide) (by kernel_rfl) (by kernel_rfl)
end Go.Proofs.YtnfcfigefdbkhaaDoor
