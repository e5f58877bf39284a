/- The reference's writing functions of this program, each by its contract. Printed by mk_swr.py. -/
import Derived.Test.YtnfigjjpdhhfjaaGreatDoorKqBeh
import Derived.Test.YtnfigjjpdhhfjaaGreatDoorKqP04
set_option linter.unusedVariables false
set_option linter.unusedSimpArgs false
namespace Go.Proofs.YtnfigjjpdhhfjaaGreatDoor
open Go.Kq
set_option maxRecDepth 20000 in
theorem wFix:FixM Tryz.prog 94:=fixed_m (te:=5) Tryz.func94 (by kernel_rfl) rfl rfl rfl (by kernel_rfl) (by kernel_rfl) (by kernel_rfl) octT
set_option maxRecDepth 20000 in
theorem wUv:UvWM Tryz.prog 59:=Z7w (te:=5) Tryz.func59 (by kernel_rfl) rfl rfl rfl (by kernel_rfl) (by kernel_rfl) (by kernel_rfl) octT
set_option maxRecDepth 20000 in
theorem wWid:Z6K Tryz.prog 95:=width_m Tryz.func95 (by kernel_rfl) rfl rfl rfl
set_option maxRecDepth 20000 in
theorem wCnt:Z6N Tryz.prog 92:=Z8l (te:=5) Tryz.func92 (by kernel_rfl) rfl rfl rfl (by kernel_rfl) (by kernel_rfl) (by kernel_rfl) octT wUv wFix
set_option maxRecDepth 20000 in
theorem wHas:HasM Tryz.prog 54:=has_m Tryz.func54 (by kernel_rfl) rfl rfl rfl (fBi (by kernel_rfl)) (by kernel_rfl)
set_option maxRecDepth 20000 in
theorem wNull:NullM Tryz.prog 90:=null_m Tryz.func90 (by kernel_rfl) rfl rfl rfl (fBi (by kernel_rfl)) (by kernel_rfl) (fBi (by kernel_rfl)) (by kernel_rfl)
set_option maxRecDepth 20000 in
theorem wWhole:Z6L Tryz.prog 61:=whole_m (te:=5) (tb:=1) Tryz.func61 (by kernel_rfl) rfl rfl rfl (by kernel_rfl) (by kernel_rfl)
set_option maxRecDepth 20000 in
theorem wThings:Z6b Tryz.prog 91:=things_m (te:=26) (tb:=88) Tryz.func91 (by kernel_rfl) rfl rfl rfl (by kernel_rfl) (by kernel_rfl)
set_option maxRecDepth 20000 in
theorem wAt:AtM Tryz.prog 56:=at_m (te:=26) (tb:=88) Tryz.func56 (by kernel_rfl) rfl rfl rfl (fBi (by kernel_rfl)) (by kernel_rfl) (by kernel_rfl) (by kernel_rfl)
set_option maxRecDepth 20000 in
theorem wKnown:Z6M Tryz.prog 57:=known_m (te:=45) (tb:=80) Tryz.func57 (by kernel_rfl) rfl rfl rfl (by kernel_rfl) (by kernel_rfl) (fBi (by kernel_rfl)) (by kernel_rfl) (by kernel_rfl) (by kernel_rfl)
set_option maxRecDepth 20000 in
theorem wUnk:UnkM Tryz.prog 60:=Z7y (te:=61) Tryz.func60 (by kernel_rfl) rfl rfl rfl (by kernel_rfl) (by kernel_rfl) (fBi (by kernel_rfl)) (Z19 (by kernel_rfl)) (by kernel_rfl) (by kernel_rfl) (by kernel_rfl) (by kernel_rfl) wKnown
set_option maxRecDepth 20000 in
theorem wValue:∀ (fs:List Kq.Fd) (sub:Int→Bool→T→List UInt8),Z1W Tryz.prog 28 fs sub→Z2p Tryz.prog 93 fs sub:=fun fs sub hPa=>value_m (te:=5) Tryz.func93 (by kernel_rfl) rfl rfl rfl (by kernel_rfl) octT (fBi (by kernel_rfl)) (by kernel_rfl) (by kernel_rfl) (by kernel_rfl) (by kernel_rfl) (by kernel_rfl) (by kernel_rfl) (by kernel_rfl) wWhole wCnt hPa wWid wFix
set_option maxRecDepth 20000 in
theorem wField:∀ (fd:Kq.Fd) (sub:Int→Bool→T→List UInt8),Z2p Tryz.prog 93 fd.sub sub→Z1W Tryz.prog 28 fd.sub sub→Z17 Tryz.prog 55 fd (fun ver flex t=>ZM fd.kind fd.nul fd.of (sub ver flex) ver flex t):=fun fd sub hVa hPa=>field_m (te:=5) (te5:=26) (tb:=88) Tryz.func55 (by kernel_rfl) rfl rfl rfl (by kernel_rfl) octT (fBi (by kernel_rfl)) (fBi (by kernel_rfl)) (by kernel_rfl) (by kernel_rfl) (by kernel_rfl) (by kernel_rfl) (by kernel_rfl) (by kernel_rfl) (by kernel_rfl) (by kernel_rfl) wNull wThings wCnt hVa hPa wFix
set_option maxRecDepth 20000 in
theorem wFit3:Fit3M Tryz.prog 51:=fits3_m Tryz.func51 (by kernel_rfl) rfl rfl rfl (fBi (by kernel_rfl)) (by kernel_rfl) (by kernel_rfl)
set_option maxRecDepth 20000 in
theorem wFit2:Fit2M Tryz.prog 23:=fits2_m (te:=61) (tb:=32) Tryz.func23 (by kernel_rfl) rfl rfl rfl (by kernel_rfl) (by kernel_rfl) (fBi (by kernel_rfl)) wFit3
set_option maxRecDepth 20000 in
theorem wFit:FitM Tryz.prog 7:=fits1_m Tryz.func7 (by kernel_rfl) rfl rfl rfl (fBi (by kernel_rfl)) (by kernel_rfl) (by kernel_rfl) (by kernel_rfl) (by kernel_rfl) (by kernel_rfl) wFit2
set_option maxRecDepth 20000 in
theorem verM:VerM Tryz.prog 10:=Z7u (P:=Tryz.prog) (f:=10) Tryz.func10 (by kernel_rfl) rfl rfl rfl (by kernel_rfl) (by kernel_rfl)
end Go.Proofs.YtnfigjjpdhhfjaaGreatDoor
