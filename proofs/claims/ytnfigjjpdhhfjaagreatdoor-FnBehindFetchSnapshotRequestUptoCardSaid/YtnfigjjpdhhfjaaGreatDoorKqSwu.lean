/- The reference's writing of parts some of whose fields have tags, uuids among them. -/
import Derived.Test.YtnfigjjpdhhfjaaGreatDoorKqSwx
import Derived.Test.YtnfigjjpdhhfjaaGreatDoorKqP05
set_option linter.unusedVariables false
set_option linter.unusedSimpArgs false
namespace Go.Proofs.YtnfigjjpdhhfjaaGreatDoor
open Go.Kq
set_option maxRecDepth 20000 in
theorem wUsualU:∀ fd:Kq.Fd,¬ fd.kind=0→¬ fd.kind=10→Z1S Tryz.prog 58 fd:=fun fd h0 h10 =>
  if h7:fd.kind=7 then usualu_m (te:=5) Tryz.func58 (by kernel_rfl) rfl rfl rfl (fBi (by kernel_rfl)) (by kernel_rfl) (fBi (by kernel_rfl)) (by kernel_rfl) (by kernel_rfl) (by kernel_rfl) (by kernel_rfl) h7
  else wUsual fd h0 h7 h10
set_option maxRecDepth 20000 in
theorem wWriteU (fs:List Kq.Fd) (h:Z2V fs=true):Z8w Tryz.prog 11 fs (Z07 fs) :=
  write_m Tryz.func11 (by kernel_rfl) rfl rfl rfl (fBi (by kernel_rfl)) (by kernel_rfl) (by kernel_rfl) (fBi (by kernel_rfl)) (Z7W wPartK wUsualU wValue wField fs h)
end Go.Proofs.YtnfigjjpdhhfjaaGreatDoor
