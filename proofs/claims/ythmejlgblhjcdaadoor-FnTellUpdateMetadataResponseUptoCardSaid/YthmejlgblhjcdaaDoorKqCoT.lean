/- What all messages of this program share, when they are written, read and told. -/
import Derived.Test.YthmejlgblhjcdaaDoorKqSwr
import Derived.Test.YthmejlgblhjcdaaDoorKqP02
import Derived.Test.YthmejlgblhjcdaaDoorKqP04
import Derived.Test.YthmejlgblhjcdaaDoorKqP01
import Derived.Laws.IdiomCopy
import Derived.Test.YthmejlgblhjcdaaDoorKqP05
set_option linter.unusedVariables false
set_option linter.unusedSimpArgs false
namespace Go.Proofs.YthmejlgblhjcdaaDoor
open Go.Kq
theorem treeT : TreeTys Tryd.prog 37 34 := ⟨flatB_is (by kernel_rfl), by kernel_rfl, by kernel_rfl, by kernel_rfl, zeroB_is (by kernel_rfl)⟩
theorem gotM : ∀ t, GotCall Tryd.prog 12 t :=
  got_m (bs := 88) (bs2 := 88) (bs3 := 32) (bs4 := 32) Tryd.func12 (by kernel_rfl) rfl rfl rfl (flatB_is (by kernel_rfl)) (flatB_is (by kernel_rfl)) (zeroB_is (by kernel_rfl)) (flatB_is (by kernel_rfl)) (flatB_is (by kernel_rfl)) (zeroB_is (by kernel_rfl)) (by kernel_rfl) (by kernel_rfl) (by kernel_rfl) (by kernel_rfl) (by kernel_rfl) (by kernel_rfl) (by kernel_rfl) (by kernel_rfl) (by kernel_rfl) (by kernel_rfl) (by kernel_rfl) (by kernel_rfl) (by decide) (by decide) (by kernel_rfl) (by kernel_rfl)
theorem sortedM : SortedM Tryd.prog 33 := sorted_m (bs := 32) Tryd.func33 (by kernel_rfl) rfl rfl rfl (by kernel_rfl) (by kernel_rfl) (by kernel_rfl) (by kernel_rfl) (by kernel_rfl) (by kernel_rfl)
theorem tagT : zeroIs Tryd.prog 68 zG := zeroB_is (by kernel_rfl)
theorem tagF : Flat Tryd.prog 68 zG := flatB_is (by kernel_rfl)
theorem numM : NumM Tryd.prog 41 := number_m Tryd.func41 (by kernel_rfl) rfl rfl rfl (by kernel_rfl) (by kernel_rfl) (by kernel_rfl) (by kernel_rfl) (by kernel_rfl)
theorem flexM : FlexM Tryd.prog 11 := flex_m Tryd.func11 (by kernel_rfl) rfl rfl rfl (flatB_is (by kernel_rfl)) (by kernel_rfl)
theorem toldF : ∀ fd : Kq.Fd, fd.kind ≠ 10 → fd.kind ≠ 11 → ToldFM Tryd.prog 23 fd (TdF fd fun _ _ => False) := fun fd h10 h11 => told_m (te := 5) Tryd.func23 (by kernel_rfl) rfl rfl rfl (by kernel_rfl) (zeroB_is (by kernel_rfl)) (flatB_is (by kernel_rfl)) (flatB_is (by kernel_rfl)) (by kernel_rfl) (by kernel_rfl) (by kernel_rfl) (by kernel_rfl) (by kernel_rfl) (by kernel_rfl) (by kernel_rfl) (by kernel_rfl) (by kernel_rfl) h10 h11 wNull wWhole sameM numM
theorem toldM : ∀ fs : List Kq.Fd, (∀ f ∈ fs, f.tag < 4294967295) → (∀ fd ∈ fs, fd.kind ≠ 10 ∧ fd.kind ≠ 11) → ToldM Tryd.prog 10 fs (TdL fs fun fd => TdF fd fun _ _ => False) := fun fs ht hk => toldl_m (te8 := 51) (tb := 80) (te5 := 26) (tb5 := 88) (teT := 65) Tryd.func10 (by kernel_rfl) rfl rfl rfl (flatB_is (by kernel_rfl)) (by kernel_rfl) (by kernel_rfl) (by kernel_rfl) (by kernel_rfl) (flatB_is (by kernel_rfl)) (by kernel_rfl) (by kernel_rfl) (by kernel_rfl) (by kernel_rfl) (by kernel_rfl) (by kernel_rfl) (by kernel_rfl) (flatB_is (by kernel_rfl)) (by kernel_rfl) (by kernel_rfl) (by kernel_rfl) ht (fun fd h => toldF fd (hk fd h).1 (hk fd h).2) wAt wHas wUnk wWhole sameM
end Go.Proofs.YthmejlgblhjcdaaDoor
