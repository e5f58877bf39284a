/- The reference's writing functions of this program, each by its contract. Printed by mk_swr.py. -/
import Derived.Test.YtehjpmchanlebaaDoorKqBeh
import Derived.Test.YtehjpmchanlebaaDoorKqP05
set_option linter.unusedVariables false
set_option linter.unusedSimpArgs false
namespace Go.Proofs.YtehjpmchanlebaaDoor
open Go.Kq
set_option maxRecDepth 20000 in
theorem wFix : FixM Tryd.prog 76 := fixed_m (te := 5) Tryd.func76 (by kernel_rfl) rfl rfl rfl (by kernel_rfl) (by kernel_rfl) (by kernel_rfl) octT
set_option maxRecDepth 20000 in
theorem wUv : UvWM Tryd.prog 52 := uvarint_m (te := 5) Tryd.func52 (by kernel_rfl) rfl rfl rfl (by kernel_rfl) (by kernel_rfl) (by kernel_rfl) octT
set_option maxRecDepth 20000 in
theorem wWid : WidthM Tryd.prog 77 := width_m Tryd.func77 (by kernel_rfl) rfl rfl rfl
set_option maxRecDepth 20000 in
theorem wCnt : CountM Tryd.prog 74 := counted_m (te := 5) Tryd.func74 (by kernel_rfl) rfl rfl rfl (by kernel_rfl) (by kernel_rfl) (by kernel_rfl) octT wUv wFix
set_option maxRecDepth 20000 in
theorem wHas : HasM Tryd.prog 47 := has_m Tryd.func47 (by kernel_rfl) rfl rfl rfl (flatB_is (by kernel_rfl)) (by kernel_rfl)
set_option maxRecDepth 20000 in
theorem wNull : NullM Tryd.prog 72 := null_m Tryd.func72 (by kernel_rfl) rfl rfl rfl (flatB_is (by kernel_rfl)) (by kernel_rfl) (flatB_is (by kernel_rfl)) (by kernel_rfl)
set_option maxRecDepth 20000 in
theorem wWhole : WholeM Tryd.prog 54 := whole_m (te := 5) (tb := 1) Tryd.func54 (by kernel_rfl) rfl rfl rfl (by kernel_rfl) (by kernel_rfl)
set_option maxRecDepth 20000 in
theorem wThings : ThingsM Tryd.prog 73 := things_m (te := 26) (tb := 88) Tryd.func73 (by kernel_rfl) rfl rfl rfl (by kernel_rfl) (by kernel_rfl)
set_option maxRecDepth 20000 in
theorem wAt : AtM Tryd.prog 49 := at_m (te := 26) (tb := 88) Tryd.func49 (by kernel_rfl) rfl rfl rfl (flatB_is (by kernel_rfl)) (by kernel_rfl) (by kernel_rfl) (by kernel_rfl)
set_option maxRecDepth 20000 in
theorem wKnown : KnownM Tryd.prog 50 := known_m (te := 45) (tb := 80) Tryd.func50 (by kernel_rfl) rfl rfl rfl (by kernel_rfl) (by kernel_rfl) (flatB_is (by kernel_rfl)) (by kernel_rfl) (by kernel_rfl) (by kernel_rfl)
set_option maxRecDepth 20000 in
theorem wUnk : UnkM Tryd.prog 53 := unknown_m (te := 60) Tryd.func53 (by kernel_rfl) rfl rfl rfl (by kernel_rfl) (by kernel_rfl) (flatB_is (by kernel_rfl)) (zeroB_is (by kernel_rfl)) (by kernel_rfl) (by kernel_rfl) (by kernel_rfl) (by kernel_rfl) wKnown
set_option maxRecDepth 20000 in
theorem wValue : ∀ (fs : List Kq.Fd) (sub : Int → Bool → T → List UInt8), PartM Tryd.prog 26 fs sub → ValueM Tryd.prog 75 fs sub := fun fs sub hPa => value_m (te := 5) Tryd.func75 (by kernel_rfl) rfl rfl rfl (by kernel_rfl) octT (flatB_is (by kernel_rfl)) (by kernel_rfl) (by kernel_rfl) (by kernel_rfl) (by kernel_rfl) (by kernel_rfl) (by kernel_rfl) (by kernel_rfl) wWhole wCnt hPa wWid wFix
set_option maxRecDepth 20000 in
theorem wField : ∀ (fd : Kq.Fd) (sub : Int → Bool → T → List UInt8), ValueM Tryd.prog 75 fd.sub sub → PartM Tryd.prog 26 fd.sub sub → FieldM Tryd.prog 48 fd (fun ver flex t => fieldV fd.kind fd.nul fd.of (sub ver flex) ver flex t) := fun fd sub hVa hPa => field_m (te := 5) (te5 := 26) (tb := 88) Tryd.func48 (by kernel_rfl) rfl rfl rfl (by kernel_rfl) octT (flatB_is (by kernel_rfl)) (flatB_is (by kernel_rfl)) (by kernel_rfl) (by kernel_rfl) (by kernel_rfl) (by kernel_rfl) (by kernel_rfl) (by kernel_rfl) (by kernel_rfl) (by kernel_rfl) wNull wThings wCnt hVa hPa wFix
set_option maxRecDepth 20000 in
theorem wPart : ∀ fs : List Kq.Fd, (∀ f ∈ fs, f.tag < 0) → (∀ fd ∈ fs, FieldM Tryd.prog 48 fd (fieldW fd)) → PartM Tryd.prog 26 fs (partW fs) := fun fs hfree hFi => part_m (te := 5) (te8 := 45) (tb := 80) (teT := 60) Tryd.func26 (by kernel_rfl) rfl rfl rfl (by kernel_rfl) octT (by kernel_rfl) (by kernel_rfl) (flatB_is (by kernel_rfl)) (by kernel_rfl) (flatB_is (by kernel_rfl)) (by kernel_rfl) (by kernel_rfl) (by kernel_rfl) (by kernel_rfl) (by kernel_rfl) (by kernel_rfl) (by kernel_rfl) (flatB_is (by kernel_rfl)) (by kernel_rfl) (by kernel_rfl) (by kernel_rfl) (by kernel_rfl) hfree hFi wHas wAt wKnown wUnk wWhole wUv
theorem wWrite (fs : List Kq.Fd) (h : freeAll fs = true) : WriteM Tryd.prog 11 fs (partW fs) :=
  write_m Tryd.func11 (by kernel_rfl) rfl rfl rfl (flatB_is (by kernel_rfl)) (by kernel_rfl) (by kernel_rfl) (flatB_is (by kernel_rfl)) (wPart fs (fun f hf => (free_tag (freeAll_mem h f hf)).1) (parts_all wPart wValue wField fs h))
set_option maxRecDepth 20000 in
theorem wFit3 : Fit3M Tryd.prog 45 := fits3_m Tryd.func45 (by kernel_rfl) rfl rfl rfl (flatB_is (by kernel_rfl)) (by kernel_rfl) (by kernel_rfl)
set_option maxRecDepth 20000 in
theorem wFit2 : Fit2M Tryd.prog 23 := fits2_m (te := 60) (tb := 32) Tryd.func23 (by kernel_rfl) rfl rfl rfl (by kernel_rfl) (by kernel_rfl) (flatB_is (by kernel_rfl)) wFit3
set_option maxRecDepth 20000 in
theorem wFit : FitM Tryd.prog 7 := fits1_m Tryd.func7 (by kernel_rfl) rfl rfl rfl (flatB_is (by kernel_rfl)) (by kernel_rfl) (by kernel_rfl) (by kernel_rfl) (by kernel_rfl) (by kernel_rfl) wFit2
set_option maxRecDepth 20000 in
theorem verM : VerM Tryd.prog 10 := version_m (P := Tryd.prog) (f := 10) Tryd.func10 (by kernel_rfl) rfl rfl rfl (by kernel_rfl) (by kernel_rfl)
end Go.Proofs.YtehjpmchanlebaaDoor
