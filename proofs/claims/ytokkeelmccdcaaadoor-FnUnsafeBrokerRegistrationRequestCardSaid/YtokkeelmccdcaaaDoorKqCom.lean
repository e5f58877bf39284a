/- What all messages of this program share. -/
import Derived.Test.YtokkeelmccdcaaaDoorKqInst
import Derived.Test.YtokkeelmccdcaaaDoorKqRdX
import Derived.Test.YtokkeelmccdcaaaDoorKqSrt
import Derived.Test.YtokkeelmccdcaaaDoorKqP04
import Derived.Test.YtokkeelmccdcaaaDoorKqP02
import Derived.Test.YtokkeelmccdcaaaDoorKqP03
set_option linter.unusedVariables false
set_option linter.unusedSimpArgs false
namespace Go.Proofs.YtokkeelmccdcaaaDoor
open Go.Kq
theorem treeT : TreeTys Tryd.prog 27 24 := ⟨flatB_is (by kernel_rfl), by kernel_rfl, by kernel_rfl, by kernel_rfl, zeroB_is (by kernel_rfl)⟩
theorem boolT : zeroOf Tryd.prog 4 (.bool false) := zeroVB_is (by kernel_rfl)
theorem sameM : SameM Tryd.prog 16 := same_m (et := 5) (bs := 1) (by kernel_rfl) Tryd.func16 (by kernel_rfl) rfl rfl rfl (by kernel_rfl) (by kernel_rfl) (by kernel_rfl)
theorem sameTree : ∀ t, SameCall Tryd.prog 8 t :=
  sametree_m (z := zT) (z2 := zG) (et1 := 35) (et2 := 50) (bs1 := 88) (bs2 := 32) Tryd.func8 (by kernel_rfl) rfl rfl rfl (flatB_is (by kernel_rfl)) rfl (flatB_is (by kernel_rfl)) rfl (by kernel_rfl) (by kernel_rfl) (by kernel_rfl) (by kernel_rfl) (by kernel_rfl) (by kernel_rfl) (by kernel_rfl) (by kernel_rfl) (by kernel_rfl) (by kernel_rfl) sameM (by kernel_rfl) (by kernel_rfl)
theorem gotM : ∀ t, GotCall Tryd.prog 9 t :=
  got_m (bs := 88) (bs2 := 88) (bs3 := 32) (bs4 := 32) Tryd.func9 (by kernel_rfl) rfl rfl rfl (flatB_is (by kernel_rfl)) (flatB_is (by kernel_rfl)) (zeroB_is (by kernel_rfl)) (flatB_is (by kernel_rfl)) (flatB_is (by kernel_rfl)) (zeroB_is (by kernel_rfl)) (by kernel_rfl) (by kernel_rfl) (by kernel_rfl) (by kernel_rfl) (by kernel_rfl) (by kernel_rfl) (by kernel_rfl) (by kernel_rfl) (by kernel_rfl) (by kernel_rfl) (by kernel_rfl) (by kernel_rfl) (by decide) (by decide) (by kernel_rfl) (by kernel_rfl)
theorem verM : VerM Tryd.prog 6 := version_m (P := Tryd.prog) (f := 6) Tryd.func6 (by kernel_rfl) rfl rfl rfl (by kernel_rfl) (by kernel_rfl)
theorem sortedM : SortedM Tryd.prog 25 := sorted_m (bs := 32) Tryd.func25 (by kernel_rfl) rfl rfl rfl (by kernel_rfl) (by kernel_rfl) (by kernel_rfl) (by kernel_rfl) (by kernel_rfl) (by kernel_rfl)
theorem tagT : zeroIs Tryd.prog 51 zG := zeroB_is (by kernel_rfl)
theorem tagF : Flat Tryd.prog 51 zG := flatB_is (by kernel_rfl)
theorem octT : zeroIs Tryd.prog 5 [.int .u8 0] := zeroB_is (by kernel_rfl)
theorem textM : FnT Tryd.prog 21 .pstr tText := text_m Tryd.func21 (by kernel_rfl) rfl rfl rfl treeT.flat (by kernel_rfl) (by kernel_rfl) (by kernel_rfl) (by kernel_rfl)
theorem boolM : FnT Tryd.prog 22 .bool tBool := bool_m Tryd.func22 (by kernel_rfl) rfl rfl rfl treeT.flat
end Go.Proofs.YtokkeelmccdcaaaDoor
