/- The reference's writing of parts some of whose fields have tags. -/
import Derived.Test.YtnfigjjpdhhfjaaGreatDoorKqSwr
import Derived.Test.YtnfigjjpdhhfjaaGreatDoorKqP06
set_option linter.unusedVariables false
set_option linter.unusedSimpArgs false
namespace Go.Proofs.YtnfigjjpdhhfjaaGreatDoor
open Go.Kq
theorem sameD:Z8Q Tryz.prog 13:=samed_m (et:=5) (bs:=1) (by kernel_rfl) Tryz.func13 (by kernel_rfl) rfl rfl rfl (by kernel_rfl) (by kernel_rfl) (by kernel_rfl)
set_option maxRecDepth 20000 in
theorem wUsual:∀ fd:Kq.Fd,¬ fd.kind=0→¬ fd.kind=7→¬ fd.kind=10→Z2u Tryz.prog 58 fd:=fun fd h0 h7 h10=>usualw_m Tryz.func58 (by kernel_rfl) rfl rfl rfl (fBi (by kernel_rfl)) (by kernel_rfl) (fBi (by kernel_rfl)) (by kernel_rfl) (by kernel_rfl) (by kernel_rfl) (by kernel_rfl) (by kernel_rfl) (by kernel_rfl) (by kernel_rfl) (by kernel_rfl) h0 h7 h10 wFix wWid sameD
set_option maxRecDepth 20000 in
theorem wPartK:∀ fs:List Kq.Fd,(∀ f ∈ fs,f.tag < 4294967295)→(∀ fd ∈ fs,Z1b Tryz.prog 55 fd (Zc fd))→(∀ fd ∈ fs,0≤fd.tag→Z2u Tryz.prog 58 fd)→Z1U Tryz.prog 28 fs (Z07 fs):=fun fs htg hFi hU=>partk_m (te:=5) (te8:=45) (tb:=80) (teT:=61) Tryz.func28 (by kernel_rfl) rfl rfl rfl (by kernel_rfl) octT (by kernel_rfl) (by kernel_rfl) (fBi (by kernel_rfl)) (by kernel_rfl) (fBi (by kernel_rfl)) (by kernel_rfl) (by kernel_rfl) (by kernel_rfl) (by kernel_rfl) (by kernel_rfl) (by kernel_rfl) (by kernel_rfl) (by kernel_rfl) (by kernel_rfl) (by kernel_rfl) (by kernel_rfl) (fBi (by kernel_rfl)) (by kernel_rfl) (by kernel_rfl) htg hFi hU wHas wAt wKnown wUnk wWhole wUv
theorem wWriteK (fs:List Kq.Fd) (h:Z31 fs=true):Z8N Tryz.prog 11 fs (Z07 fs) :=
  write_m Tryz.func11 (by kernel_rfl) rfl rfl rfl (fBi (by kernel_rfl)) (by kernel_rfl) (by kernel_rfl) (fBi (by kernel_rfl)) (Z8d wPartK wUsual wValue wField fs h)
end Go.Proofs.YtnfigjjpdhhfjaaGreatDoor
