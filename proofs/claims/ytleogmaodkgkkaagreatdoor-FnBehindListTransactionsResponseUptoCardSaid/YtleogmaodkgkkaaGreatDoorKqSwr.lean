/- The reference's writing functions of this program, each by its contract. Printed by mk_swr.py. -/
import Derived.Test.YtleogmaodkgkkaaGreatDoorKqBeh
import Derived.Test.YtleogmaodkgkkaaGreatDoorKqP05
set_option linter.unusedVariables false
set_option linter.unusedSimpArgs false
namespace Go.Proofs.YtleogmaodkgkkaaGreatDoor
open Go.Kq
set_option maxRecDepth 20000 in
theorem wFix : FixM Tryz.prog 110 := fixed_m (te := 5) Tryz.func110 (by kernel_rfl) rfl rfl rfl (by kernel_rfl) (by kernel_rfl) (by kernel_rfl) octT
set_option maxRecDepth 20000 in
theorem wUv : UvWM Tryz.prog 75 := uvarint_m (te := 5) Tryz.func75 (by kernel_rfl) rfl rfl rfl (by kernel_rfl) (by kernel_rfl) (by kernel_rfl) octT
set_option maxRecDepth 20000 in
theorem wWid : WidthM Tryz.prog 111 := width_m Tryz.func111 (by kernel_rfl) rfl rfl rfl
set_option maxRecDepth 20000 in
theorem wCnt : CountM Tryz.prog 108 := counted_m (te := 5) Tryz.func108 (by kernel_rfl) rfl rfl rfl (by kernel_rfl) (by kernel_rfl) (by kernel_rfl) octT wUv wFix
set_option maxRecDepth 20000 in
theorem wHas : HasM Tryz.prog 70 := has_m Tryz.func70 (by kernel_rfl) rfl rfl rfl (flatB_is (by kernel_rfl)) (by kernel_rfl)
set_option maxRecDepth 20000 in
theorem wNull : NullM Tryz.prog 106 := null_m Tryz.func106 (by kernel_rfl) rfl rfl rfl (flatB_is (by kernel_rfl)) (by kernel_rfl) (flatB_is (by kernel_rfl)) (by kernel_rfl)
set_option maxRecDepth 20000 in
theorem wWhole : WholeM Tryz.prog 77 := whole_m (te := 5) (tb := 1) Tryz.func77 (by kernel_rfl) rfl rfl rfl (by kernel_rfl) (by kernel_rfl)
set_option maxRecDepth 20000 in
theorem wThings : ThingsM Tryz.prog 107 := things_m (te := 26) (tb := 88) Tryz.func107 (by kernel_rfl) rfl rfl rfl (by kernel_rfl) (by kernel_rfl)
set_option maxRecDepth 20000 in
theorem wAt : AtM Tryz.prog 72 := at_m (te := 26) (tb := 88) Tryz.func72 (by kernel_rfl) rfl rfl rfl (flatB_is (by kernel_rfl)) (by kernel_rfl) (by kernel_rfl) (by kernel_rfl)
set_option maxRecDepth 20000 in
theorem wKnown : KnownM Tryz.prog 73 := known_m (te := 46) (tb := 80) Tryz.func73 (by kernel_rfl) rfl rfl rfl (by kernel_rfl) (by kernel_rfl) (flatB_is (by kernel_rfl)) (by kernel_rfl) (by kernel_rfl) (by kernel_rfl)
set_option maxRecDepth 20000 in
theorem wUnk : UnkM Tryz.prog 76 := unknown_m (te := 65) Tryz.func76 (by kernel_rfl) rfl rfl rfl (by kernel_rfl) (by kernel_rfl) (flatB_is (by kernel_rfl)) (zeroB_is (by kernel_rfl)) (by kernel_rfl) (by kernel_rfl) (by kernel_rfl) (by kernel_rfl) wKnown
set_option maxRecDepth 20000 in
theorem wValue : ∀ (fs : List Kq.Fd) (sub : Int → Bool → T → List UInt8), PartM Tryz.prog 35 fs sub → ValueM Tryz.prog 109 fs sub := fun fs sub hPa => value_m (te := 5) Tryz.func109 (by kernel_rfl) rfl rfl rfl (by kernel_rfl) octT (flatB_is (by kernel_rfl)) (by kernel_rfl) (by kernel_rfl) (by kernel_rfl) (by kernel_rfl) (by kernel_rfl) (by kernel_rfl) (by kernel_rfl) wWhole wCnt hPa wWid wFix
set_option maxRecDepth 20000 in
theorem wField : ∀ (fd : Kq.Fd) (sub : Int → Bool → T → List UInt8), ValueM Tryz.prog 109 fd.sub sub → PartM Tryz.prog 35 fd.sub sub → FieldM Tryz.prog 71 fd (fun ver flex t => fieldV fd.kind fd.nul fd.of (sub ver flex) ver flex t) := fun fd sub hVa hPa => field_m (te := 5) (te5 := 26) (tb := 88) Tryz.func71 (by kernel_rfl) rfl rfl rfl (by kernel_rfl) octT (flatB_is (by kernel_rfl)) (flatB_is (by kernel_rfl)) (by kernel_rfl) (by kernel_rfl) (by kernel_rfl) (by kernel_rfl) (by kernel_rfl) (by kernel_rfl) (by kernel_rfl) (by kernel_rfl) wNull wThings wCnt hVa hPa wFix
set_option maxRecDepth 20000 in
theorem wPart : ∀ fs : List Kq.Fd, (∀ f ∈ fs, f.tag < 0) → (∀ fd ∈ fs, FieldM Tryz.prog 71 fd (fieldW fd)) → PartM Tryz.prog 35 fs (partW fs) := fun fs hfree hFi => part_m (te := 5) (te8 := 46) (tb := 80) (teT := 65) Tryz.func35 (by kernel_rfl) rfl rfl rfl (by kernel_rfl) octT (by kernel_rfl) (by kernel_rfl) (flatB_is (by kernel_rfl)) (by kernel_rfl) (flatB_is (by kernel_rfl)) (by kernel_rfl) (by kernel_rfl) (by kernel_rfl) (by kernel_rfl) (by kernel_rfl) (by kernel_rfl) (by kernel_rfl) (flatB_is (by kernel_rfl)) (by kernel_rfl) (by kernel_rfl) (by kernel_rfl) (by kernel_rfl) hfree hFi wHas wAt wKnown wUnk wWhole wUv
theorem wWrite (fs : List Kq.Fd) (h : freeAll fs = true) : WriteM Tryz.prog 13 fs (partW fs) :=
  write_m Tryz.func13 (by kernel_rfl) rfl rfl rfl (flatB_is (by kernel_rfl)) (by kernel_rfl) (by kernel_rfl) (flatB_is (by kernel_rfl)) (wPart fs (fun f hf => (free_tag (freeAll_mem h f hf)).1) (parts_all wPart wValue wField fs h))
set_option maxRecDepth 20000 in
theorem wFit3 : Fit3M Tryz.prog 68 := fits3_m Tryz.func68 (by kernel_rfl) rfl rfl rfl (flatB_is (by kernel_rfl)) (by kernel_rfl) (by kernel_rfl)
set_option maxRecDepth 20000 in
theorem wFit2 : Fit2M Tryz.prog 31 := fits2_m (te := 65) (tb := 32) Tryz.func31 (by kernel_rfl) rfl rfl rfl (by kernel_rfl) (by kernel_rfl) (flatB_is (by kernel_rfl)) wFit3
set_option maxRecDepth 20000 in
theorem wFit : FitM Tryz.prog 9 := fits1_m Tryz.func9 (by kernel_rfl) rfl rfl rfl (flatB_is (by kernel_rfl)) (by kernel_rfl) (by kernel_rfl) (by kernel_rfl) (by kernel_rfl) (by kernel_rfl) wFit2
set_option maxRecDepth 20000 in
theorem verM : VerM Tryz.prog 12 := version_m (P := Tryz.prog) (f := 12) Tryz.func12 (by kernel_rfl) rfl rfl rfl (by kernel_rfl) (by kernel_rfl)
end Go.Proofs.YtleogmaodkgkkaaGreatDoor
