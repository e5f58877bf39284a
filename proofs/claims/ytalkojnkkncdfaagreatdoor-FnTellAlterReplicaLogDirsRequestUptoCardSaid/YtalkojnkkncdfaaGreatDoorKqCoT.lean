/- What all messages of this program share, when they are written, read and told. -/
import Derived.Test.YtalkojnkkncdfaaGreatDoorKqSwr
import Derived.Test.YtalkojnkkncdfaaGreatDoorKqP03
import Derived.Test.YtalkojnkkncdfaaGreatDoorKqP02
import Derived.Test.YtalkojnkkncdfaaGreatDoorKqP05
import Derived.Laws.IdiomCopy
import Derived.Test.YtalkojnkkncdfaaGreatDoorKqP06
set_option linter.unusedVariables false
set_option linter.unusedSimpArgs false
namespace Go.Proofs.YtalkojnkkncdfaaGreatDoor
open Go.Kq
theorem treeT : TreeTys Tryz.prog 37 34 := ⟨flatB_is (by kernel_rfl), by kernel_rfl, by kernel_rfl, by kernel_rfl, zeroB_is (by kernel_rfl)⟩
theorem gotM : ∀ t, GotCall Tryz.prog 15 t :=
  got_m (bs := 88) (bs2 := 88) (bs3 := 32) (bs4 := 32) Tryz.func15 (by kernel_rfl) rfl rfl rfl (flatB_is (by kernel_rfl)) (flatB_is (by kernel_rfl)) (zeroB_is (by kernel_rfl)) (flatB_is (by kernel_rfl)) (flatB_is (by kernel_rfl)) (zeroB_is (by kernel_rfl)) (by kernel_rfl) (by kernel_rfl) (by kernel_rfl) (by kernel_rfl) (by kernel_rfl) (by kernel_rfl) (by kernel_rfl) (by kernel_rfl) (by kernel_rfl) (by kernel_rfl) (by kernel_rfl) (by kernel_rfl) (by decide) (by decide) (by kernel_rfl) (by kernel_rfl)
theorem sortedM : SortedM Tryz.prog 66 := sorted_m (bs := 32) Tryz.func66 (by kernel_rfl) rfl rfl rfl (by kernel_rfl) (by kernel_rfl) (by kernel_rfl) (by kernel_rfl) (by kernel_rfl) (by kernel_rfl)
theorem tagT : zeroIs Tryz.prog 69 zG := zeroB_is (by kernel_rfl)
theorem tagF : Flat Tryz.prog 69 zG := flatB_is (by kernel_rfl)
theorem numM : NumM Tryz.prog 74 := number_m Tryz.func74 (by kernel_rfl) rfl rfl rfl (by kernel_rfl) (by kernel_rfl) (by kernel_rfl) (by kernel_rfl) (by kernel_rfl)
theorem flexM : FlexM Tryz.prog 14 := flex_m Tryz.func14 (by kernel_rfl) rfl rfl rfl (flatB_is (by kernel_rfl)) (by kernel_rfl)
theorem toldX : ∀ (fd : Kq.Fd) (RS R1 : Int → Bool → T → T → Prop), (fd.kind = 10 → ToldM Tryz.prog 13 fd.sub RS) → (fd.kind = 11 → ToldFM Tryz.prog 36 (oneF fd) R1) → ToldFM Tryz.prog 36 fd (TdF fd (TdK fd RS R1)) := fun fd RS R1 hT hO => told_x (te := 5) (te5 := 26) (tb5 := 88) Tryz.func36 (by kernel_rfl) rfl rfl rfl (by kernel_rfl) (zeroB_is (by kernel_rfl)) (flatB_is (by kernel_rfl)) (flatB_is (by kernel_rfl)) (by kernel_rfl) (by kernel_rfl) (by kernel_rfl) (by kernel_rfl) (by kernel_rfl) (by kernel_rfl) (by kernel_rfl) (by kernel_rfl) (by kernel_rfl) (by kernel_rfl) (by kernel_rfl) (by kernel_rfl) (by kernel_rfl) (by kernel_rfl) wNull wWhole sameM numM hT wThings hO
theorem toldM : ∀ (fs : List Kq.Fd) (Rf : Kq.Fd → Int → Bool → T → T → Prop), (∀ f ∈ fs, f.tag < 4294967295) → (∀ fd ∈ fs, ToldFM Tryz.prog 36 fd (Rf fd)) → ToldM Tryz.prog 13 fs (TdL fs Rf) := fun fs Rf ht hk => toldl_m (te8 := 52) (tb := 80) (te5 := 26) (tb5 := 88) (teT := 66) Tryz.func13 (by kernel_rfl) rfl rfl rfl (flatB_is (by kernel_rfl)) (by kernel_rfl) (by kernel_rfl) (by kernel_rfl) (by kernel_rfl) (flatB_is (by kernel_rfl)) (by kernel_rfl) (by kernel_rfl) (by kernel_rfl) (by kernel_rfl) (by kernel_rfl) (by kernel_rfl) (by kernel_rfl) (flatB_is (by kernel_rfl)) (by kernel_rfl) (by kernel_rfl) (by kernel_rfl) ht hk wAt wHas wUnk wWhole sameM
theorem toldN : ∀ (k : Nat) (fs : List Kq.Fd), okN k fs = true → ToldM Tryz.prog 13 fs (TdL fs (RfN k)) := told_allX toldX toldM
end Go.Proofs.YtalkojnkkncdfaaGreatDoor
