/- What all messages of this program share. -/
import Derived.Test.YtekhigcoccepjaaDoorKqInst
import Derived.Test.YtekhigcoccepjaaDoorKqRdX
import Derived.Test.YtekhigcoccepjaaDoorKqSrt
import Derived.Test.YtekhigcoccepjaaDoorKqP11
import Derived.Test.YtekhigcoccepjaaDoorKqP02
import Derived.Test.YtekhigcoccepjaaDoorKqP05
import Derived.Test.YtekhigcoccepjaaDoorKqP12
import Derived.Test.YtekhigcoccepjaaDoorKqP08
set_option linter.unusedVariables false
set_option linter.unusedSimpArgs false
namespace Go.Proofs.YtekhigcoccepjaaDoor
open Go.Kq

theorem treeT : TreeTys Tryd.prog 27 24 := ⟨flatB_is (by kernel_rfl), by kernel_rfl, by kernel_rfl, by kernel_rfl, zeroB_is (by kernel_rfl)⟩
theorem boolT : zeroOf Tryd.prog 4 (.bool false) := zeroVB_is (by kernel_rfl)
theorem sameM : SameM Tryd.prog 36 := same_m (et := 5) (bs := 1) (by kernel_rfl) Tryd.func36 (by kernel_rfl) rfl rfl rfl (by kernel_rfl) (by kernel_rfl) (by kernel_rfl)
theorem sameTree : ∀ t, SameCall Tryd.prog 13 t :=
  sametree_m (z := zT) (z2 := zG) (et1 := 35) (et2 := 50) (bs1 := 88) (bs2 := 32) Tryd.func13 (by kernel_rfl) rfl rfl rfl (flatB_is (by kernel_rfl)) rfl (flatB_is (by kernel_rfl)) rfl (by kernel_rfl) (by kernel_rfl) (by kernel_rfl) (by kernel_rfl) (by kernel_rfl) (by kernel_rfl) (by kernel_rfl) (by kernel_rfl) (by kernel_rfl) (by kernel_rfl) sameM (by kernel_rfl) (by kernel_rfl)
theorem gotM : ∀ t, GotCall Tryd.prog 14 t :=
  got_m (bs := 88) (bs2 := 88) (bs3 := 32) (bs4 := 32) Tryd.func14 (by kernel_rfl) rfl rfl rfl (flatB_is (by kernel_rfl)) (flatB_is (by kernel_rfl)) (zeroB_is (by kernel_rfl)) (flatB_is (by kernel_rfl)) (flatB_is (by kernel_rfl)) (zeroB_is (by kernel_rfl)) (by kernel_rfl) (by kernel_rfl) (by kernel_rfl) (by kernel_rfl) (by kernel_rfl) (by kernel_rfl) (by kernel_rfl) (by kernel_rfl) (by kernel_rfl) (by kernel_rfl) (by kernel_rfl) (by kernel_rfl) (by decide) (by decide) (by kernel_rfl) (by kernel_rfl)
theorem verM : VerM Tryd.prog 11 := version_m (P := Tryd.prog) (f := 11) Tryd.func11 (by kernel_rfl) rfl rfl rfl (by kernel_rfl) (by kernel_rfl)
theorem sortedM : SortedM Tryd.prog 72 := sorted_m (bs := 32) Tryd.func72 (by kernel_rfl) rfl rfl rfl (by kernel_rfl) (by kernel_rfl) (by kernel_rfl) (by kernel_rfl) (by kernel_rfl) (by kernel_rfl)
theorem tagT : zeroIs Tryd.prog 51 zG := zeroB_is (by kernel_rfl)
theorem tagF : Flat Tryd.prog 51 zG := flatB_is (by kernel_rfl)
theorem octT : zeroIs Tryd.prog 5 [.int .u8 0] := zeroB_is (by kernel_rfl)
theorem textM : FnT Tryd.prog 79 .pstr tText := text_m Tryd.func79 (by kernel_rfl) rfl rfl rfl treeT.flat (by kernel_rfl) (by kernel_rfl) (by kernel_rfl) (by kernel_rfl)
theorem boolM : FnT Tryd.prog 130 .bool tBool := bool_m Tryd.func130 (by kernel_rfl) rfl rfl rfl treeT.flat
theorem octsM : FnT Tryd.prog 153 .bytes tOcts := octs_m (et := 5) Tryd.func153 (by kernel_rfl) rfl rfl rfl treeT.flat (by kernel_rfl) (by kernel_rfl) (zeroB_is (by kernel_rfl))
end Go.Proofs.YtekhigcoccepjaaDoor
