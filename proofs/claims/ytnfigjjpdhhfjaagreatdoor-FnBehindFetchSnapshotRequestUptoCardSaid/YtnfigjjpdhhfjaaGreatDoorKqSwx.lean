/- The reference's writing of parts some of whose fields have tags. -/
import Derived.Test.YtnfigjjpdhhfjaaGreatDoorKqSwr
import Derived.Test.YtnfigjjpdhhfjaaGreatDoorKqP05
set_option linter.unusedVariables false
set_option linter.unusedSimpArgs false
namespace Go.Proofs.YtnfigjjpdhhfjaaGreatDoor
open Go.Kq
theorem sameD:Z8z Tryz.prog 13:=samed_m (et:=5) (bs:=1) (by kernel_rfl) Tryz.func13 (by kernel_rfl) rfl rfl rfl (by kernel_rfl) (by kernel_rfl) (by kernel_rfl)
set_option maxRecDepth 20000 in
theorem wUsual:∀ fd:Kq.Fd,¬ fd.kind=0→¬ fd.kind=7→¬ fd.kind=10→Z1S Tryz.prog 58 fd:=fun fd h0 h7 h10=>usualw_m Tryz.func58 (by kernel_rfl) rfl rfl rfl (fBi (by kernel_rfl)) (by kernel_rfl) (fBi (by kernel_rfl)) (by kernel_rfl) (by kernel_rfl) (by kernel_rfl) (by kernel_rfl) (by kernel_rfl) (by kernel_rfl) (by kernel_rfl) (by kernel_rfl) h0 h7 h10 wFix wWid sameD
set_option maxRecDepth 20000 in
theorem wPartK:∀ fs:List Kq.Fd,(∀ f ∈ fs,f.tag < 4294967295)→(∀ fd ∈ fs,Z17 Tryz.prog 55 fd (Zc fd))→(∀ fd ∈ fs,0≤fd.tag→Z1S Tryz.prog 58 fd)→Z1W Tryz.prog 28 fs (Z07 fs):=fun fs htg hFi hU=>partk_m (te:=5) (te8:=45) (tb:=80) (teT:=61) Tryz.func28 (by kernel_rfl) rfl rfl rfl (by kernel_rfl) octT (by kernel_rfl) (by kernel_rfl) (fBi (by kernel_rfl)) (by kernel_rfl) (fBi (by kernel_rfl)) (by kernel_rfl) (by kernel_rfl) (by kernel_rfl) (by kernel_rfl) (by kernel_rfl) (by kernel_rfl) (by kernel_rfl) (by kernel_rfl) (by kernel_rfl) (by kernel_rfl) (by kernel_rfl) (fBi (by kernel_rfl)) (by kernel_rfl) (by kernel_rfl) htg hFi hU wHas wAt wKnown wUnk wWhole wUv
end Go.Proofs.YtnfigjjpdhhfjaaGreatDoor
