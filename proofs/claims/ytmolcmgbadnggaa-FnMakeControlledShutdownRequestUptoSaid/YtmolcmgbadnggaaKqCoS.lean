/- What all messages of this program share, when they are made: parts of trees, what can be set, what is given. -/
import Derived.Test.YtmolcmgbadnggaaKqSaT
import Derived.Test.YtmolcmgbadnggaaKqSwK
import Derived.Test.YtmolcmgbadnggaaKqP06
set_option linter.unusedVariables false
set_option linter.unusedSimpArgs false
namespace Go.Proofs.Ytmolcmgbadnggaa
open Go.Kq
theorem treeF : Flat Try.prog 37 zT := fBi (by kernel_rfl)
set_option maxRecDepth 20000 in
theorem iAt : AtM Try.prog 62 := at_m (te := 37) (tb := 88) Try.func62 (by kernel_rfl) rfl rfl rfl (fBi (by kernel_rfl)) (by kernel_rfl) (by kernel_rfl) (by kernel_rfl)
set_option maxRecDepth 20000 in
theorem givM : Enters Try.prog 12 ∧ ∀ t, GotCall Try.prog 12 t := ⟨enters_of Try.func12 (by kernel_rfl) rfl,
  got_m (bs := 88) (bs2 := 88) (bs3 := 32) (bs4 := 32) Try.func12 (by kernel_rfl) rfl rfl rfl (fBi (by kernel_rfl)) (fBi (by kernel_rfl)) (zeroB_is (by kernel_rfl)) (fBi (by kernel_rfl)) (fBi (by kernel_rfl)) (zeroB_is (by kernel_rfl)) (by kernel_rfl) (by kernel_rfl) (by kernel_rfl) (by kernel_rfl) (by kernel_rfl) (by kernel_rfl) (by kernel_rfl) (by kernel_rfl) (by kernel_rfl) (by kernel_rfl) (by kernel_rfl) (by kernel_rfl) (by decide) (by decide) (by kernel_rfl) (by kernel_rfl)⟩
set_option maxRecDepth 20000 in
theorem fitA (k : Nat) (fs : List Kq.Fd) (h : okN k fs = true) : FitTM Try.prog 13 fs (fitT k fs) :=
  fit_all (ff := 32) (fun fd gS gO h1 h2 => fitted_m (bT23 := 88) Try.func32 (by kernel_rfl) rfl rfl rfl (fBi (by kernel_rfl)) (fBi (by kernel_rfl)) (by kernel_rfl) (by kernel_rfl) (by kernel_rfl) (by kernel_rfl) (by kernel_rfl) (by kernel_rfl) (by kernel_rfl) (by decide) (zeroB_is (by kernel_rfl)) (by kernel_rfl) (by kernel_rfl) (by kernel_rfl) h1 h2 wNull wWhole wThings)
    (fun fs g h1 h2 => fit_m (te8 := 46) (teT := 0) (tb8 := 80) (tbT := 0) (bT23 := 88) (bT24 := 32) Try.func13 (by kernel_rfl) rfl rfl rfl (fBi (by kernel_rfl)) (by kernel_rfl) (by kernel_rfl) (fBi (by kernel_rfl)) (by kernel_rfl) (by kernel_rfl) (by decide) (zeroB_is (by kernel_rfl)) (by kernel_rfl) (by kernel_rfl) (by kernel_rfl) (by kernel_rfl) (by kernel_rfl) (fBi (by kernel_rfl)) (by kernel_rfl) (by kernel_rfl) (by decide) (zeroB_is (by kernel_rfl)) (by kernel_rfl) h1 h2 wAt wUnk wWhole) k fs h
theorem setTagM : SetTagM Try.prog 70 := settag_m (kt := 53) (et := 22) Try.func70 (by kernel_rfl) rfl rfl rfl (by kernel_rfl) (by kernel_rfl) (by kernel_rfl)
end Go.Proofs.Ytmolcmgbadnggaa
