/- What all messages of this program share. -/
import Derived.Test.YtakgipndohelcaaDoorKqInst
import Derived.Test.YtakgipndohelcaaDoorKqRdX
import Derived.Test.YtakgipndohelcaaDoorKqSrt
import Derived.Test.YtakgipndohelcaaDoorKqP11
import Derived.Test.YtakgipndohelcaaDoorKqP02
import Derived.Test.YtakgipndohelcaaDoorKqP05
import Derived.Test.YtakgipndohelcaaDoorKqP12
import Derived.Test.YtakgipndohelcaaDoorKqP08
set_option linter.unusedVariables false
set_option linter.unusedSimpArgs false
namespace Go.Proofs.YtakgipndohelcaaDoor
open Go.Kq

theorem treeT : TreeTys Tryd.prog 27 24 := ⟨flatB_is (by kernel_rfl), by kernel_rfl, by kernel_rfl, by kernel_rfl, zeroB_is (by kernel_rfl)⟩
theorem boolT : zeroOf Tryd.prog 4 (.bool false) := zeroVB_is (by kernel_rfl)
theorem sameM : SameM Tryd.prog 28 := same_m (et := 5) (bs := 1) (by kernel_rfl) Tryd.func28 (by kernel_rfl) rfl rfl rfl (by kernel_rfl) (by kernel_rfl) (by kernel_rfl)
theorem sameTree : ∀ t, SameCall Tryd.prog 11 t :=
  sametree_m (z := zT) (z2 := zG) (et1 := 35) (et2 := 50) (bs1 := 88) (bs2 := 32) Tryd.func11 (by kernel_rfl) rfl rfl rfl (flatB_is (by kernel_rfl)) rfl (flatB_is (by kernel_rfl)) rfl (by kernel_rfl) (by kernel_rfl) (by kernel_rfl) (by kernel_rfl) (by kernel_rfl) (by kernel_rfl) (by kernel_rfl) (by kernel_rfl) (by kernel_rfl) (by kernel_rfl) sameM (by kernel_rfl) (by kernel_rfl)
theorem gotM : ∀ t, GotCall Tryd.prog 12 t :=
  got_m (bs := 88) (bs2 := 88) (bs3 := 32) (bs4 := 32) Tryd.func12 (by kernel_rfl) rfl rfl rfl (flatB_is (by kernel_rfl)) (flatB_is (by kernel_rfl)) (zeroB_is (by kernel_rfl)) (flatB_is (by kernel_rfl)) (flatB_is (by kernel_rfl)) (zeroB_is (by kernel_rfl)) (by kernel_rfl) (by kernel_rfl) (by kernel_rfl) (by kernel_rfl) (by kernel_rfl) (by kernel_rfl) (by kernel_rfl) (by kernel_rfl) (by kernel_rfl) (by kernel_rfl) (by kernel_rfl) (by kernel_rfl) (by decide) (by decide) (by kernel_rfl) (by kernel_rfl)
theorem verM : VerM Tryd.prog 9 := version_m (P := Tryd.prog) (f := 9) Tryd.func9 (by kernel_rfl) rfl rfl rfl (by kernel_rfl) (by kernel_rfl)
theorem sortedM : SortedM Tryd.prog 51 := sorted_m (bs := 32) Tryd.func51 (by kernel_rfl) rfl rfl rfl (by kernel_rfl) (by kernel_rfl) (by kernel_rfl) (by kernel_rfl) (by kernel_rfl) (by kernel_rfl)
theorem tagT : zeroIs Tryd.prog 51 zG := zeroB_is (by kernel_rfl)
theorem tagF : Flat Tryd.prog 51 zG := flatB_is (by kernel_rfl)
theorem octT : zeroIs Tryd.prog 5 [.int .u8 0] := zeroB_is (by kernel_rfl)
theorem textM : FnT Tryd.prog 54 .pstr tText := text_m Tryd.func54 (by kernel_rfl) rfl rfl rfl treeT.flat (by kernel_rfl) (by kernel_rfl) (by kernel_rfl) (by kernel_rfl)
theorem boolM : FnT Tryd.prog 62 .bool tBool := bool_m Tryd.func62 (by kernel_rfl) rfl rfl rfl treeT.flat
end Go.Proofs.YtakgipndohelcaaDoor
