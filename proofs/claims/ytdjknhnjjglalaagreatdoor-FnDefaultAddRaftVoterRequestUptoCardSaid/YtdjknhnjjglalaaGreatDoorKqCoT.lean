/- What all messages of this program share, when they are written, read and told. -/
import Derived.Test.YtdjknhnjjglalaaGreatDoorKqSwr
import Derived.Test.YtdjknhnjjglalaaGreatDoorKqP03
import Derived.Test.YtdjknhnjjglalaaGreatDoorKqP02
import Derived.Test.YtdjknhnjjglalaaGreatDoorKqP05
import Derived.Test.YtdjknhnjjglalaaGreatDoorKqP06
set_option linter.unusedVariables false
set_option linter.unusedSimpArgs false
namespace Go.Proofs.YtdjknhnjjglalaaGreatDoor
open Go.Kq
theorem treeT : TreeTys Tryz.prog 37 34 := ⟨flatB_is (by kernel_rfl), by kernel_rfl, by kernel_rfl, by kernel_rfl, zeroB_is (by kernel_rfl)⟩
theorem gotM : ∀ t, GotCall Tryz.prog 15 t :=
  got_m (bs := 88) (bs2 := 88) (bs3 := 32) (bs4 := 32) Tryz.func15 (by kernel_rfl) rfl rfl rfl (flatB_is (by kernel_rfl)) (flatB_is (by kernel_rfl)) (zeroB_is (by kernel_rfl)) (flatB_is (by kernel_rfl)) (flatB_is (by kernel_rfl)) (zeroB_is (by kernel_rfl)) (by kernel_rfl) (by kernel_rfl) (by kernel_rfl) (by kernel_rfl) (by kernel_rfl) (by kernel_rfl) (by kernel_rfl) (by kernel_rfl) (by kernel_rfl) (by kernel_rfl) (by kernel_rfl) (by kernel_rfl) (by decide) (by decide) (by kernel_rfl) (by kernel_rfl)
theorem sortedM : SortedM Tryz.prog 78 := sorted_m (bs := 32) Tryz.func78 (by kernel_rfl) rfl rfl rfl (by kernel_rfl) (by kernel_rfl) (by kernel_rfl) (by kernel_rfl) (by kernel_rfl) (by kernel_rfl)
theorem tagT : zeroIs Tryz.prog 64 zG := zeroB_is (by kernel_rfl)
theorem tagF : Flat Tryz.prog 64 zG := flatB_is (by kernel_rfl)
theorem textM : FnT Tryz.prog 83 .pstr tText := text_m Tryz.func83 (by kernel_rfl) rfl rfl rfl treeT.flat (by kernel_rfl) (by kernel_rfl) (by kernel_rfl) (by kernel_rfl)
theorem boolM : FnT Tryz.prog 85 .bool tBool := bool_m Tryz.func85 (by kernel_rfl) rfl rfl rfl treeT.flat
theorem numM : NumM Tryz.prog 40 := number_m Tryz.func40 (by kernel_rfl) rfl rfl rfl (by kernel_rfl) (by kernel_rfl) (by kernel_rfl) (by kernel_rfl) (by kernel_rfl)
theorem dfM (fs : List Kq.Fd) : DefsM Tryz.prog 14 fs := defaults_m (te8 := 52) (tb := 80) Tryz.func14 (by kernel_rfl) rfl rfl rfl (by kernel_rfl) (by kernel_rfl) (flatB_is (by kernel_rfl)) (by kernel_rfl) (by kernel_rfl) (by kernel_rfl) (flatB_is (by kernel_rfl)) (by kernel_rfl) (by kernel_rfl) (by kernel_rfl) (by kernel_rfl) wAt numM
end Go.Proofs.YtdjknhnjjglalaaGreatDoor
