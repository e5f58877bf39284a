/- What all messages of this program share, when they are made: parts of trees, what can be set, what is given. -/
import Derived.Test.YtkdlpnbonlnffaaGreatKqSaT
import Derived.Test.YtkdlpnbonlnffaaGreatKqSwK
import Derived.Test.YtkdlpnbonlnffaaGreatKqP06
set_option linter.unusedVariables false
set_option linter.unusedSimpArgs false
namespace Go.Proofs.YtkdlpnbonlnffaaGreat
open Go.Kq
theorem treeF : Flat Tryz.prog 39 zT := fBi (by kernel_rfl)
set_option maxRecDepth 20000 in
theorem iAt : AtM Tryz.prog 28 := at_m (te := 39) (tb := 88) Tryz.func28 (by kernel_rfl) rfl rfl rfl (fBi (by kernel_rfl)) (by kernel_rfl) (by kernel_rfl) (by kernel_rfl)
set_option maxRecDepth 20000 in
theorem givM : Enters Tryz.prog 10 ∧ ∀ t, GotCall Tryz.prog 10 t := ⟨enters_of Tryz.func10 (by kernel_rfl) rfl,
  got_m (bs := 88) (bs2 := 88) (bs3 := 32) (bs4 := 32) Tryz.func10 (by kernel_rfl) rfl rfl rfl (fBi (by kernel_rfl)) (fBi (by kernel_rfl)) (zeroB_is (by kernel_rfl)) (fBi (by kernel_rfl)) (fBi (by kernel_rfl)) (zeroB_is (by kernel_rfl)) (by kernel_rfl) (by kernel_rfl) (by kernel_rfl) (by kernel_rfl) (by kernel_rfl) (by kernel_rfl) (by kernel_rfl) (by kernel_rfl) (by kernel_rfl) (by kernel_rfl) (by kernel_rfl) (by kernel_rfl) (by decide) (by decide) (by kernel_rfl) (by kernel_rfl)⟩
set_option maxRecDepth 20000 in
theorem fitA (k : Nat) (fs : List Kq.Fd) (h : okN k fs = true) : FitTM Tryz.prog 11 fs (fitT k fs) :=
  fit_all (ff := 20) (fun fd gS gO h1 h2 => fitted_m (bT23 := 88) Tryz.func20 (by kernel_rfl) rfl rfl rfl (fBi (by kernel_rfl)) (fBi (by kernel_rfl)) (by kernel_rfl) (by kernel_rfl) (by kernel_rfl) (by kernel_rfl) (by kernel_rfl) (by kernel_rfl) (by kernel_rfl) (by decide) (zeroB_is (by kernel_rfl)) (by kernel_rfl) (by kernel_rfl) (by kernel_rfl) h1 h2 wNull wWhole wThings)
    (fun fs g h1 h2 => fit_m (te8 := 50) (teT := 0) (tb8 := 80) (tbT := 0) (bT23 := 88) (bT24 := 32) Tryz.func11 (by kernel_rfl) rfl rfl rfl (fBi (by kernel_rfl)) (by kernel_rfl) (by kernel_rfl) (fBi (by kernel_rfl)) (by kernel_rfl) (by kernel_rfl) (by decide) (zeroB_is (by kernel_rfl)) (by kernel_rfl) (by kernel_rfl) (by kernel_rfl) (by kernel_rfl) (by kernel_rfl) (fBi (by kernel_rfl)) (by kernel_rfl) (by kernel_rfl) (by decide) (zeroB_is (by kernel_rfl)) (by kernel_rfl) h1 h2 wAt wUnk wWhole) k fs h
theorem setTagM : SetTagM Tryz.prog 30 := settag_m (kt := 61) (et := 22) Tryz.func30 (by kernel_rfl) rfl rfl rfl (by kernel_rfl) (by kernel_rfl) (by kernel_rfl)
end Go.Proofs.YtkdlpnbonlnffaaGreat
