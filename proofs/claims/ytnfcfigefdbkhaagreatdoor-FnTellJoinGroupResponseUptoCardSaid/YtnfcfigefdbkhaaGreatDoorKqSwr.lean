/- The reference's writing functions of this program, each by its contract. Printed by mk_swr.py. -/
import Derived.Test.YtnfcfigefdbkhaaGreatDoorKqBeh
import Derived.Test.YtnfcfigefdbkhaaGreatDoorKqP02
import Derived.Test.YtnfcfigefdbkhaaGreatDoorKqP04
import Derived.Test.YtnfcfigefdbkhaaGreatDoorKqP05
set_option linter.unusedVariables false
set_option linter.unusedSimpArgs false
namespace Go.Proofs.YtnfcfigefdbkhaaGreatDoor
open Go.Kq
set_option maxRecDepth 20000 in
theorem wFix:FixM Tryz.prog 61:=fixed_m (te:=5) Tryz.func61 (by kernel_rfl) rfl rfl rfl (by kernel_rfl) (by kernel_rfl) (by kernel_rfl) octT
set_option maxRecDepth 20000 in
theorem wUv:UvWM Tryz.prog 60:=uvarint_m (te:=5) Tryz.func60 (by kernel_rfl) rfl rfl rfl (by kernel_rfl) (by kernel_rfl) (by kernel_rfl) octT
set_option maxRecDepth 20000 in
theorem wWid:WidthM Tryz.prog 62:=width_m Tryz.func62 (by kernel_rfl) rfl rfl rfl
set_option maxRecDepth 20000 in
theorem wCnt:CountM Tryz.prog 96:=counted_m (te:=5) Tryz.func96 (by kernel_rfl) rfl rfl rfl (by kernel_rfl) (by kernel_rfl) (by kernel_rfl) octT wUv wFix
set_option maxRecDepth 20000 in
theorem wHas:HasM Tryz.prog 30:=has_m Tryz.func30 (by kernel_rfl) rfl rfl rfl (fBi (by kernel_rfl)) (by kernel_rfl)
set_option maxRecDepth 20000 in
theorem wNull:NullM Tryz.prog 63:=null_m Tryz.func63 (by kernel_rfl) rfl rfl rfl (fBi (by kernel_rfl)) (by kernel_rfl) (fBi (by kernel_rfl)) (by kernel_rfl)
set_option maxRecDepth 20000 in
theorem wWhole:WholeM Tryz.prog 36:=whole_m (te:=5) (tb:=1) Tryz.func36 (by kernel_rfl) rfl rfl rfl (by kernel_rfl) (by kernel_rfl)
set_option maxRecDepth 20000 in
theorem wThings:ThingsM Tryz.prog 64:=things_m (te:=26) (tb:=88) Tryz.func64 (by kernel_rfl) rfl rfl rfl (by kernel_rfl) (by kernel_rfl)
set_option maxRecDepth 20000 in
theorem wAt:AtM Tryz.prog 29:=at_m (te:=26) (tb:=88) Tryz.func29 (by kernel_rfl) rfl rfl rfl (fBi (by kernel_rfl)) (by kernel_rfl) (by kernel_rfl) (by kernel_rfl)
set_option maxRecDepth 20000 in
theorem wKnown:KnownM Tryz.prog 59:=known_m (te:=51) (tb:=80) Tryz.func59 (by kernel_rfl) rfl rfl rfl (by kernel_rfl) (by kernel_rfl) (fBi (by kernel_rfl)) (by kernel_rfl) (by kernel_rfl) (by kernel_rfl)
set_option maxRecDepth 20000 in
theorem wUnk:UnkM Tryz.prog 34:=unknown_m (te:=66) Tryz.func34 (by kernel_rfl) rfl rfl rfl (by kernel_rfl) (by kernel_rfl) (fBi (by kernel_rfl)) (zeroB_is (by kernel_rfl)) (by kernel_rfl) (by kernel_rfl) (by kernel_rfl) (by kernel_rfl) wKnown
set_option maxRecDepth 20000 in
theorem wValue:∀ (fs:List Kq.Fd) (sub:Int→Bool→T→List UInt8),PartM Tryz.prog 28 fs sub→ValueM Tryz.prog 97 fs sub:=fun fs sub hPa=>value_m (te:=5) Tryz.func97 (by kernel_rfl) rfl rfl rfl (by kernel_rfl) octT (fBi (by kernel_rfl)) (by kernel_rfl) (by kernel_rfl) (by kernel_rfl) (by kernel_rfl) (by kernel_rfl) (by kernel_rfl) (by kernel_rfl) wWhole wCnt hPa wWid wFix
set_option maxRecDepth 20000 in
theorem wField:∀ (fd:Kq.Fd) (sub:Int→Bool→T→List UInt8),ValueM Tryz.prog 97 fd.sub sub→PartM Tryz.prog 28 fd.sub sub→FieldM Tryz.prog 58 fd (fun ver flex t=>fieldV fd.kind fd.nul fd.of (sub ver flex) ver flex t):=fun fd sub hVa hPa=>field_m (te:=5) (te5:=26) (tb:=88) Tryz.func58 (by kernel_rfl) rfl rfl rfl (by kernel_rfl) octT (fBi (by kernel_rfl)) (fBi (by kernel_rfl)) (by kernel_rfl) (by kernel_rfl) (by kernel_rfl) (by kernel_rfl) (by kernel_rfl) (by kernel_rfl) (by kernel_rfl) (by kernel_rfl) wNull wThings wCnt hVa hPa wFix
set_option maxRecDepth 20000 in
theorem wPart:∀ fs:List Kq.Fd,(∀ f ∈ fs,f.tag < 0)→(∀ fd ∈ fs,FieldM Tryz.prog 58 fd (fieldW fd))→PartM Tryz.prog 28 fs (partW fs):=fun fs hfree hFi=>part_m (te:=5) (te8:=51) (tb:=80) (teT:=66) Tryz.func28 (by kernel_rfl) rfl rfl rfl (by kernel_rfl) octT (by kernel_rfl) (by kernel_rfl) (fBi (by kernel_rfl)) (by kernel_rfl) (fBi (by kernel_rfl)) (by kernel_rfl) (by kernel_rfl) (by kernel_rfl) (by kernel_rfl) (by kernel_rfl) (by kernel_rfl) (by kernel_rfl) (fBi (by kernel_rfl)) (by kernel_rfl) (by kernel_rfl) (by kernel_rfl) (by kernel_rfl) hfree hFi wHas wAt wKnown wUnk wWhole wUv
theorem wWrite (fs:List Kq.Fd) (h:freeAll fs=true):WriteM Tryz.prog 11 fs (partW fs) :=
  write_m Tryz.func11 (by kernel_rfl) rfl rfl rfl (fBi (by kernel_rfl)) (by kernel_rfl) (by kernel_rfl) (fBi (by kernel_rfl)) (wPart fs (fun f hf=>(free_tag (freeAll_mem h f hf)).1) (parts_all wPart wValue wField fs h))
set_option maxRecDepth 20000 in
theorem wFit3:Fit3M Tryz.prog 50:=fits3_m Tryz.func50 (by kernel_rfl) rfl rfl rfl (fBi (by kernel_rfl)) (by kernel_rfl) (by kernel_rfl)
set_option maxRecDepth 20000 in
theorem wFit2:Fit2M Tryz.prog 21:=fits2_m (te:=66) (tb:=32) Tryz.func21 (by kernel_rfl) rfl rfl rfl (by kernel_rfl) (by kernel_rfl) (fBi (by kernel_rfl)) wFit3
set_option maxRecDepth 20000 in
theorem wFit:FitM Tryz.prog 6:=fits1_m Tryz.func6 (by kernel_rfl) rfl rfl rfl (fBi (by kernel_rfl)) (by kernel_rfl) (by kernel_rfl) (by kernel_rfl) (by kernel_rfl) (by kernel_rfl) wFit2
set_option maxRecDepth 20000 in
theorem verM:VerM Tryz.prog 9:=version_m (P:=Tryz.prog) (f:=9) Tryz.func9 (by kernel_rfl) rfl rfl rfl (by kernel_rfl) (by kernel_rfl)
end Go.Proofs.YtnfcfigefdbkhaaGreatDoor
