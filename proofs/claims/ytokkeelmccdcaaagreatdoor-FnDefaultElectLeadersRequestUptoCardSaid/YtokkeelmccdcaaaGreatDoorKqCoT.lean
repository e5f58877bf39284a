/- What all messages of this program share, when they are written, read and told. -/
import Derived.Test.YtokkeelmccdcaaaGreatDoorKqSwr
import Derived.Test.YtokkeelmccdcaaaGreatDoorKqP03
import Derived.Test.YtokkeelmccdcaaaGreatDoorKqP02
import Derived.Test.YtokkeelmccdcaaaGreatDoorKqP05
import Derived.Test.YtokkeelmccdcaaaGreatDoorKqP06
set_option linter.unusedVariables false
set_option linter.unusedSimpArgs false
namespace Go.Proofs.YtokkeelmccdcaaaGreatDoor
open Go.Kq
theorem treeT : TreeTys Tryz.prog 42 39 := ⟨flatB_is (by kernel_rfl), by kernel_rfl, by kernel_rfl, by kernel_rfl, zeroB_is (by kernel_rfl)⟩
theorem gotM : ∀ t, GotCall Tryz.prog 20 t :=
  got_m (bs := 88) (bs2 := 88) (bs3 := 32) (bs4 := 32) Tryz.func20 (by kernel_rfl) rfl rfl rfl (flatB_is (by kernel_rfl)) (flatB_is (by kernel_rfl)) (zeroB_is (by kernel_rfl)) (flatB_is (by kernel_rfl)) (flatB_is (by kernel_rfl)) (zeroB_is (by kernel_rfl)) (by kernel_rfl) (by kernel_rfl) (by kernel_rfl) (by kernel_rfl) (by kernel_rfl) (by kernel_rfl) (by kernel_rfl) (by kernel_rfl) (by kernel_rfl) (by kernel_rfl) (by kernel_rfl) (by kernel_rfl) (by decide) (by decide) (by kernel_rfl) (by kernel_rfl)
theorem sortedM : SortedM Tryz.prog 77 := sorted_m (bs := 32) Tryz.func77 (by kernel_rfl) rfl rfl rfl (by kernel_rfl) (by kernel_rfl) (by kernel_rfl) (by kernel_rfl) (by kernel_rfl) (by kernel_rfl)
theorem tagT : zeroIs Tryz.prog 71 zG := zeroB_is (by kernel_rfl)
theorem tagF : Flat Tryz.prog 71 zG := flatB_is (by kernel_rfl)
theorem numM : NumM Tryz.prog 44 := number_m Tryz.func44 (by kernel_rfl) rfl rfl rfl (by kernel_rfl) (by kernel_rfl) (by kernel_rfl) (by kernel_rfl) (by kernel_rfl)
theorem dfM (fs : List Kq.Fd) : DefsM Tryz.prog 19 fs := defaults_m (te8 := 54) (tb := 80) Tryz.func19 (by kernel_rfl) rfl rfl rfl (by kernel_rfl) (by kernel_rfl) (flatB_is (by kernel_rfl)) (by kernel_rfl) (by kernel_rfl) (by kernel_rfl) (flatB_is (by kernel_rfl)) (by kernel_rfl) (by kernel_rfl) (by kernel_rfl) (by kernel_rfl) wAt numM
end Go.Proofs.YtokkeelmccdcaaaGreatDoor
