/- The reference's writing functions of this program, each by its contract. Printed by mk_swr.py. -/
import Derived.Test.YtnfcfigefdbkhaaDoorKqBeh
import Derived.Test.YtnfcfigefdbkhaaDoorKqP02
import Derived.Test.YtnfcfigefdbkhaaDoorKqP03
import Derived.Test.YtnfcfigefdbkhaaDoorKqP04
set_option linter.unusedVariables false
set_option linter.unusedSimpArgs false
namespace Go.Proofs.YtnfcfigefdbkhaaDoor
open Go.Kq
set_option maxRecDepth 20000 in
theorem wFix:FixM Tryd.prog 20:=fixed_m (te:=5) Tryd.func20 (by kernel_rfl) rfl rfl rfl (by kernel_rfl) (by kernel_rfl) (by kernel_rfl) octT
set_option maxRecDepth 20000 in
theorem wUv:UvWM Tryd.prog 64:=uvarint_m (te:=5) Tryd.func64 (by kernel_rfl) rfl rfl rfl (by kernel_rfl) (by kernel_rfl) (by kernel_rfl) octT
set_option maxRecDepth 20000 in
theorem wWid:WidthM Tryd.prog 44:=width_m Tryd.func44 (by kernel_rfl) rfl rfl rfl
set_option maxRecDepth 20000 in
theorem wCnt:CountM Tryd.prog 81:=counted_m (te:=5) Tryd.func81 (by kernel_rfl) rfl rfl rfl (by kernel_rfl) (by kernel_rfl) (by kernel_rfl) octT wUv wFix
set_option maxRecDepth 20000 in
theorem wHas:HasM Tryd.prog 23:=has_m Tryd.func23 (by kernel_rfl) rfl rfl rfl (fBi (by kernel_rfl)) (by kernel_rfl)
set_option maxRecDepth 20000 in
theorem wNull:NullM Tryd.prog 45:=null_m Tryd.func45 (by kernel_rfl) rfl rfl rfl (fBi (by kernel_rfl)) (by kernel_rfl) (fBi (by kernel_rfl)) (by kernel_rfl)
set_option maxRecDepth 20000 in
theorem wWhole:WholeM Tryd.prog 29:=whole_m (te:=5) (tb:=1) Tryd.func29 (by kernel_rfl) rfl rfl rfl (by kernel_rfl) (by kernel_rfl)
set_option maxRecDepth 20000 in
theorem wThings:ThingsM Tryd.prog 46:=things_m (te:=26) (tb:=88) Tryd.func46 (by kernel_rfl) rfl rfl rfl (by kernel_rfl) (by kernel_rfl)
set_option maxRecDepth 20000 in
theorem wAt:AtM Tryd.prog 22:=at_m (te:=26) (tb:=88) Tryd.func22 (by kernel_rfl) rfl rfl rfl (fBi (by kernel_rfl)) (by kernel_rfl) (by kernel_rfl) (by kernel_rfl)
set_option maxRecDepth 20000 in
theorem wKnown:KnownM Tryd.prog 48:=known_m (te:=47) (tb:=80) Tryd.func48 (by kernel_rfl) rfl rfl rfl (by kernel_rfl) (by kernel_rfl) (fBi (by kernel_rfl)) (by kernel_rfl) (by kernel_rfl) (by kernel_rfl)
set_option maxRecDepth 20000 in
theorem wUnk:UnkM Tryd.prog 27:=unknown_m (te:=68) Tryd.func27 (by kernel_rfl) rfl rfl rfl (by kernel_rfl) (by kernel_rfl) (fBi (by kernel_rfl)) (zeroB_is (by kernel_rfl)) (by kernel_rfl) (by kernel_rfl) (by kernel_rfl) (by kernel_rfl) wKnown
set_option maxRecDepth 20000 in
theorem wValue:∀ (fs:List Kq.Fd) (sub:Int→Bool→T→List UInt8),PartM Tryd.prog 43 fs sub→ValueM Tryd.prog 82 fs sub:=fun fs sub hPa=>value_m (te:=5) Tryd.func82 (by kernel_rfl) rfl rfl rfl (by kernel_rfl) octT (fBi (by kernel_rfl)) (by kernel_rfl) (by kernel_rfl) (by kernel_rfl) (by kernel_rfl) (by kernel_rfl) (by kernel_rfl) (by kernel_rfl) wWhole wCnt hPa wWid wFix
set_option maxRecDepth 20000 in
theorem wField:∀ (fd:Kq.Fd) (sub:Int→Bool→T→List UInt8),ValueM Tryd.prog 82 fd.sub sub→PartM Tryd.prog 43 fd.sub sub→FieldM Tryd.prog 63 fd (fun ver flex t=>fieldV fd.kind fd.nul fd.of (sub ver flex) ver flex t):=fun fd sub hVa hPa=>field_m (te:=5) (te5:=26) (tb:=88) Tryd.func63 (by kernel_rfl) rfl rfl rfl (by kernel_rfl) octT (fBi (by kernel_rfl)) (fBi (by kernel_rfl)) (by kernel_rfl) (by kernel_rfl) (by kernel_rfl) (by kernel_rfl) (by kernel_rfl) (by kernel_rfl) (by kernel_rfl) (by kernel_rfl) wNull wThings wCnt hVa hPa wFix
set_option maxRecDepth 20000 in
theorem wPart:∀ fs:List Kq.Fd,(∀ f ∈ fs,f.tag < 0)→(∀ fd ∈ fs,FieldM Tryd.prog 63 fd (fieldW fd))→PartM Tryd.prog 43 fs (partW fs):=fun fs hfree hFi=>part_m (te:=5) (te8:=47) (tb:=80) (teT:=68) Tryd.func43 (by kernel_rfl) rfl rfl rfl (by kernel_rfl) octT (by kernel_rfl) (by kernel_rfl) (fBi (by kernel_rfl)) (by kernel_rfl) (fBi (by kernel_rfl)) (by kernel_rfl) (by kernel_rfl) (by kernel_rfl) (by kernel_rfl) (by kernel_rfl) (by kernel_rfl) (by kernel_rfl) (fBi (by kernel_rfl)) (by kernel_rfl) (by kernel_rfl) (by kernel_rfl) (by kernel_rfl) hfree hFi wHas wAt wKnown wUnk wWhole wUv
theorem wWrite (fs:List Kq.Fd) (h:freeAll fs=true):WriteM Tryd.prog 21 fs (partW fs) :=
  write_m Tryd.func21 (by kernel_rfl) rfl rfl rfl (fBi (by kernel_rfl)) (by kernel_rfl) (by kernel_rfl) (fBi (by kernel_rfl)) (wPart fs (fun f hf=>(free_tag (freeAll_mem h f hf)).1) (parts_all wPart wValue wField fs h))
set_option maxRecDepth 20000 in
theorem wFit3:Fit3M Tryd.prog 36:=fits3_m Tryd.func36 (by kernel_rfl) rfl rfl rfl (fBi (by kernel_rfl)) (by kernel_rfl) (by kernel_rfl)
set_option maxRecDepth 20000 in
theorem wFit2:Fit2M Tryd.prog 16:=fits2_m (te:=68) (tb:=32) Tryd.func16 (by kernel_rfl) rfl rfl rfl (by kernel_rfl) (by kernel_rfl) (fBi (by kernel_rfl)) wFit3
set_option maxRecDepth 20000 in
theorem wFit:FitM Tryd.prog 5:=fits1_m Tryd.func5 (by kernel_rfl) rfl rfl rfl (fBi (by kernel_rfl)) (by kernel_rfl) (by kernel_rfl) (by kernel_rfl) (by kernel_rfl) (by kernel_rfl) wFit2
end Go.Proofs.YtnfcfigefdbkhaaDoor
