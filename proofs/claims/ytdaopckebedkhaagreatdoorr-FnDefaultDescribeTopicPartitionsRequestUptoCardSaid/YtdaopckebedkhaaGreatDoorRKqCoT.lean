/- What all messages of this program share, when they are written, read and told. -/
import Derived.Test.YtdaopckebedkhaaGreatDoorRKqSwr
import Derived.Test.YtdaopckebedkhaaGreatDoorRKqP03
import Derived.Test.YtdaopckebedkhaaGreatDoorRKqP02
import Derived.Test.YtdaopckebedkhaaGreatDoorRKqP05
set_option linter.unusedVariables false
set_option linter.unusedSimpArgs false
namespace Go.Proofs.YtdaopckebedkhaaGreatDoorR
open Go.Kq
theorem treeT : TreeTys Tryz.prog 37 34 := ⟨fBi (by kernel_rfl), by kernel_rfl, by kernel_rfl, by kernel_rfl, zeroB_is (by kernel_rfl)⟩
theorem gotM : ∀ t, GotCall Tryz.prog 11 t :=
  got_m (bs := 88) (bs2 := 88) (bs3 := 32) (bs4 := 32) Tryz.func11 (by kernel_rfl) rfl rfl rfl (fBi (by kernel_rfl)) (fBi (by kernel_rfl)) (zeroB_is (by kernel_rfl)) (fBi (by kernel_rfl)) (fBi (by kernel_rfl)) (zeroB_is (by kernel_rfl)) (by kernel_rfl) (by kernel_rfl) (by kernel_rfl) (by kernel_rfl) (by kernel_rfl) (by kernel_rfl) (by kernel_rfl) (by kernel_rfl) (by kernel_rfl) (by kernel_rfl) (by kernel_rfl) (by kernel_rfl) (by decide) (by decide) (by kernel_rfl) (by kernel_rfl)
theorem sortedM : SortedM Tryz.prog 30 := sorted_m (bs := 32) Tryz.func30 (by kernel_rfl) rfl rfl rfl (by kernel_rfl) (by kernel_rfl) (by kernel_rfl) (by kernel_rfl) (by kernel_rfl) (by kernel_rfl)
theorem tagT : zeroIs Tryz.prog 62 zG := zeroB_is (by kernel_rfl)
theorem tagF : Flat Tryz.prog 62 zG := fBi (by kernel_rfl)
theorem numM : NumM Tryz.prog 23 := number_m Tryz.func23 (by kernel_rfl) rfl rfl rfl (by kernel_rfl) (by kernel_rfl) (by kernel_rfl) (by kernel_rfl) (by kernel_rfl)
theorem dfM (fs : List Kq.Fd) : DefsM Tryz.prog 10 fs := defaults_m (te8 := 51) (tb := 80) Tryz.func10 (by kernel_rfl) rfl rfl rfl (by kernel_rfl) (by kernel_rfl) (fBi (by kernel_rfl)) (by kernel_rfl) (by kernel_rfl) (by kernel_rfl) (fBi (by kernel_rfl)) (by kernel_rfl) (by kernel_rfl) (by kernel_rfl) (by kernel_rfl) wAt numM
end Go.Proofs.YtdaopckebedkhaaGreatDoorR
