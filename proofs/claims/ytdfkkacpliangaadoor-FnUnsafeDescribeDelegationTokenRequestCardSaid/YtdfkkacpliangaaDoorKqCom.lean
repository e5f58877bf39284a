/- What all messages of this program share. -/
import Derived.Test.YtdfkkacpliangaaDoorKqInst
import Derived.Test.YtdfkkacpliangaaDoorKqRdX
import Derived.Test.YtdfkkacpliangaaDoorKqSrt
import Derived.Test.YtdfkkacpliangaaDoorKqP11
import Derived.Test.YtdfkkacpliangaaDoorKqP02
import Derived.Test.YtdfkkacpliangaaDoorKqP05
import Derived.Test.YtdfkkacpliangaaDoorKqP12
import Derived.Test.YtdfkkacpliangaaDoorKqP08
namespace Go.Proofs.YtdfkkacpliangaaDoor
open Go.Kq

theorem treeT : TreeTys Tryd.prog 27 24 := ⟨flatB_is (by kernel_rfl), by kernel_rfl, by kernel_rfl, by kernel_rfl, zeroB_is (by kernel_rfl)⟩
theorem boolT : zeroOf Tryd.prog 4 (.bool false) := zeroVB_is (by kernel_rfl)
theorem sameM : SameM Tryd.prog 24 := same_m (et := 5) (bs := 1) (by kernel_rfl) Tryd.func24 (by kernel_rfl) rfl rfl rfl (by kernel_rfl) (by kernel_rfl) (by kernel_rfl)
theorem sameTree : ∀ t, SameCall Tryd.prog 10 t :=
  sametree_m (z := zT) (z2 := zG) (et1 := 35) (et2 := 50) (bs1 := 88) (bs2 := 32) Tryd.func10 (by kernel_rfl) rfl rfl rfl (flatB_is (by kernel_rfl)) rfl (flatB_is (by kernel_rfl)) rfl (by kernel_rfl) (by kernel_rfl) (by kernel_rfl) (by kernel_rfl) (by kernel_rfl) (by kernel_rfl) (by kernel_rfl) (by kernel_rfl) (by kernel_rfl) (by kernel_rfl) sameM (by kernel_rfl) (by kernel_rfl)
theorem gotM : ∀ t, GotCall Tryd.prog 11 t :=
  got_m (bs := 88) (bs2 := 88) (bs3 := 32) (bs4 := 32) Tryd.func11 (by kernel_rfl) rfl rfl rfl (flatB_is (by kernel_rfl)) (flatB_is (by kernel_rfl)) (zeroB_is (by kernel_rfl)) (flatB_is (by kernel_rfl)) (flatB_is (by kernel_rfl)) (zeroB_is (by kernel_rfl)) (by kernel_rfl) (by kernel_rfl) (by kernel_rfl) (by kernel_rfl) (by kernel_rfl) (by kernel_rfl) (by kernel_rfl) (by kernel_rfl) (by kernel_rfl) (by kernel_rfl) (by kernel_rfl) (by kernel_rfl) (by decide) (by decide) (by kernel_rfl) (by kernel_rfl)
theorem verM : VerM Tryd.prog 8 := version_m (P := Tryd.prog) (f := 8) Tryd.func8 (by kernel_rfl) rfl rfl rfl (by kernel_rfl) (by kernel_rfl)
theorem sortedM : SortedM Tryd.prog 42 := sorted_m (bs := 32) Tryd.func42 (by kernel_rfl) rfl rfl rfl (by kernel_rfl) (by kernel_rfl) (by kernel_rfl) (by kernel_rfl) (by kernel_rfl) (by kernel_rfl)
theorem tagT : zeroIs Tryd.prog 51 zG := zeroB_is (by kernel_rfl)
theorem tagF : Flat Tryd.prog 51 zG := flatB_is (by kernel_rfl)
theorem octT : zeroIs Tryd.prog 5 [.int .u8 0] := zeroB_is (by kernel_rfl)
theorem textM : FnT Tryd.prog 39 .pstr tText := text_m Tryd.func39 (by kernel_rfl) rfl rfl rfl treeT.flat (by kernel_rfl) (by kernel_rfl) (by kernel_rfl) (by kernel_rfl)
end Go.Proofs.YtdfkkacpliangaaDoor
