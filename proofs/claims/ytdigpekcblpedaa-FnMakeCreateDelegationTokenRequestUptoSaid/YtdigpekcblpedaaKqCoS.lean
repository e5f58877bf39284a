/- What all messages of this program share, when they are made: parts of trees, what can be set, what is given. -/
import Derived.Test.YtdigpekcblpedaaKqSaT
import Derived.Test.YtdigpekcblpedaaKqSwK
import Derived.Test.YtdigpekcblpedaaKqP06
set_option linter.unusedVariables false
set_option linter.unusedSimpArgs false
namespace Go.Proofs.Ytdigpekcblpedaa
open Go.Kq
theorem treeF : Flat Try.prog 39 zT := fBi (by kernel_rfl)
set_option maxRecDepth 20000 in
theorem iAt : AtM Try.prog 63 := at_m (te := 39) (tb := 88) Try.func63 (by kernel_rfl) rfl rfl rfl (fBi (by kernel_rfl)) (by kernel_rfl) (by kernel_rfl) (by kernel_rfl)
set_option maxRecDepth 20000 in
theorem givM : Enters Try.prog 14 ∧ ∀ t, GotCall Try.prog 14 t := ⟨enters_of Try.func14 (by kernel_rfl) rfl,
  got_m (bs := 88) (bs2 := 88) (bs3 := 32) (bs4 := 32) Try.func14 (by kernel_rfl) rfl rfl rfl (fBi (by kernel_rfl)) (fBi (by kernel_rfl)) (zeroB_is (by kernel_rfl)) (fBi (by kernel_rfl)) (fBi (by kernel_rfl)) (zeroB_is (by kernel_rfl)) (by kernel_rfl) (by kernel_rfl) (by kernel_rfl) (by kernel_rfl) (by kernel_rfl) (by kernel_rfl) (by kernel_rfl) (by kernel_rfl) (by kernel_rfl) (by kernel_rfl) (by kernel_rfl) (by kernel_rfl) (by decide) (by decide) (by kernel_rfl) (by kernel_rfl)⟩
set_option maxRecDepth 20000 in
theorem fitA (k : Nat) (fs : List Kq.Fd) (h : okN k fs = true) : FitTM Try.prog 15 fs (fitT k fs) :=
  fit_all (ff := 35) (fun fd gS gO h1 h2 => fitted_m (bT23 := 88) Try.func35 (by kernel_rfl) rfl rfl rfl (fBi (by kernel_rfl)) (fBi (by kernel_rfl)) (by kernel_rfl) (by kernel_rfl) (by kernel_rfl) (by kernel_rfl) (by kernel_rfl) (by kernel_rfl) (by kernel_rfl) (by decide) (zeroB_is (by kernel_rfl)) (by kernel_rfl) (by kernel_rfl) (by kernel_rfl) h1 h2 wNull wWhole wThings)
    (fun fs g h1 h2 => fit_m (te8 := 50) (teT := 0) (tb8 := 80) (tbT := 0) (bT23 := 88) (bT24 := 32) Try.func15 (by kernel_rfl) rfl rfl rfl (fBi (by kernel_rfl)) (by kernel_rfl) (by kernel_rfl) (fBi (by kernel_rfl)) (by kernel_rfl) (by kernel_rfl) (by decide) (zeroB_is (by kernel_rfl)) (by kernel_rfl) (by kernel_rfl) (by kernel_rfl) (by kernel_rfl) (by kernel_rfl) (fBi (by kernel_rfl)) (by kernel_rfl) (by kernel_rfl) (by decide) (zeroB_is (by kernel_rfl)) (by kernel_rfl) h1 h2 wAt wUnk wWhole) k fs h
theorem setTagM : SetTagM Try.prog 64 := settag_m (kt := 59) (et := 22) Try.func64 (by kernel_rfl) rfl rfl rfl (by kernel_rfl) (by kernel_rfl) (by kernel_rfl)
end Go.Proofs.Ytdigpekcblpedaa
