/- The reference's writing functions of this program, each by its contract. Printed by mk_swr.py. -/
import Derived.Test.YthmejlgblhjcdaaDoorKqBeh
import Derived.Test.YthmejlgblhjcdaaDoorKqP02
import Derived.Test.YthmejlgblhjcdaaDoorKqP03
import Derived.Test.YthmejlgblhjcdaaDoorKqP04
set_option linter.unusedVariables false
set_option linter.unusedSimpArgs false
namespace Go.Proofs.YthmejlgblhjcdaaDoor
open Go.Kq
set_option maxRecDepth 20000 in
theorem wFix : FixM Tryd.prog 37 := fixed_m (te := 5) Tryd.func37 (by kernel_rfl) rfl rfl rfl (by kernel_rfl) (by kernel_rfl) (by kernel_rfl) octT
set_option maxRecDepth 20000 in
theorem wUv : UvWM Tryd.prog 36 := uvarint_m (te := 5) Tryd.func36 (by kernel_rfl) rfl rfl rfl (by kernel_rfl) (by kernel_rfl) (by kernel_rfl) octT
set_option maxRecDepth 20000 in
theorem wWid : WidthM Tryd.prog 38 := width_m Tryd.func38 (by kernel_rfl) rfl rfl rfl
set_option maxRecDepth 20000 in
theorem wCnt : CountM Tryd.prog 47 := counted_m (te := 5) Tryd.func47 (by kernel_rfl) rfl rfl rfl (by kernel_rfl) (by kernel_rfl) (by kernel_rfl) octT wUv wFix
set_option maxRecDepth 20000 in
theorem wHas : HasM Tryd.prog 21 := has_m Tryd.func21 (by kernel_rfl) rfl rfl rfl (flatB_is (by kernel_rfl)) (by kernel_rfl)
set_option maxRecDepth 20000 in
theorem wNull : NullM Tryd.prog 39 := null_m Tryd.func39 (by kernel_rfl) rfl rfl rfl (flatB_is (by kernel_rfl)) (by kernel_rfl) (flatB_is (by kernel_rfl)) (by kernel_rfl)
set_option maxRecDepth 20000 in
theorem wWhole : WholeM Tryd.prog 27 := whole_m (te := 5) (tb := 1) Tryd.func27 (by kernel_rfl) rfl rfl rfl (by kernel_rfl) (by kernel_rfl)
set_option maxRecDepth 20000 in
theorem wThings : ThingsM Tryd.prog 40 := things_m (te := 26) (tb := 88) Tryd.func40 (by kernel_rfl) rfl rfl rfl (by kernel_rfl) (by kernel_rfl)
set_option maxRecDepth 20000 in
theorem wAt : AtM Tryd.prog 20 := at_m (te := 26) (tb := 88) Tryd.func20 (by kernel_rfl) rfl rfl rfl (flatB_is (by kernel_rfl)) (by kernel_rfl) (by kernel_rfl) (by kernel_rfl)
set_option maxRecDepth 20000 in
theorem wKnown : KnownM Tryd.prog 35 := known_m (te := 51) (tb := 80) Tryd.func35 (by kernel_rfl) rfl rfl rfl (by kernel_rfl) (by kernel_rfl) (flatB_is (by kernel_rfl)) (by kernel_rfl) (by kernel_rfl) (by kernel_rfl)
set_option maxRecDepth 20000 in
theorem wUnk : UnkM Tryd.prog 25 := unknown_m (te := 65) Tryd.func25 (by kernel_rfl) rfl rfl rfl (by kernel_rfl) (by kernel_rfl) (flatB_is (by kernel_rfl)) (zeroB_is (by kernel_rfl)) (by kernel_rfl) (by kernel_rfl) (by kernel_rfl) (by kernel_rfl) wKnown
set_option maxRecDepth 20000 in
theorem wValue : ∀ (fs : List Kq.Fd) (sub : Int → Bool → T → List UInt8), PartM Tryd.prog 19 fs sub → ValueM Tryd.prog 48 fs sub := fun fs sub hPa => value_m (te := 5) Tryd.func48 (by kernel_rfl) rfl rfl rfl (by kernel_rfl) octT (flatB_is (by kernel_rfl)) (by kernel_rfl) (by kernel_rfl) (by kernel_rfl) (by kernel_rfl) (by kernel_rfl) (by kernel_rfl) (by kernel_rfl) wWhole wCnt hPa wWid wFix
set_option maxRecDepth 20000 in
theorem wField : ∀ (fd : Kq.Fd) (sub : Int → Bool → T → List UInt8), ValueM Tryd.prog 48 fd.sub sub → PartM Tryd.prog 19 fd.sub sub → FieldM Tryd.prog 34 fd (fun ver flex t => fieldV fd.kind fd.nul fd.of (sub ver flex) ver flex t) := fun fd sub hVa hPa => field_m (te := 5) (te5 := 26) (tb := 88) Tryd.func34 (by kernel_rfl) rfl rfl rfl (by kernel_rfl) octT (flatB_is (by kernel_rfl)) (flatB_is (by kernel_rfl)) (by kernel_rfl) (by kernel_rfl) (by kernel_rfl) (by kernel_rfl) (by kernel_rfl) (by kernel_rfl) (by kernel_rfl) (by kernel_rfl) wNull wThings wCnt hVa hPa wFix
set_option maxRecDepth 20000 in
theorem wPart : ∀ fs : List Kq.Fd, (∀ f ∈ fs, f.tag < 0) → (∀ fd ∈ fs, FieldM Tryd.prog 34 fd (fieldW fd)) → PartM Tryd.prog 19 fs (partW fs) := fun fs hfree hFi => part_m (te := 5) (te8 := 51) (tb := 80) (teT := 65) Tryd.func19 (by kernel_rfl) rfl rfl rfl (by kernel_rfl) octT (by kernel_rfl) (by kernel_rfl) (flatB_is (by kernel_rfl)) (by kernel_rfl) (flatB_is (by kernel_rfl)) (by kernel_rfl) (by kernel_rfl) (by kernel_rfl) (by kernel_rfl) (by kernel_rfl) (by kernel_rfl) (by kernel_rfl) (flatB_is (by kernel_rfl)) (by kernel_rfl) (by kernel_rfl) (by kernel_rfl) (by kernel_rfl) hfree hFi wHas wAt wKnown wUnk wWhole wUv
theorem wWrite (fs : List Kq.Fd) (h : freeAll fs = true) : WriteM Tryd.prog 9 fs (partW fs) :=
  write_m Tryd.func9 (by kernel_rfl) rfl rfl rfl (flatB_is (by kernel_rfl)) (by kernel_rfl) (by kernel_rfl) (flatB_is (by kernel_rfl)) (wPart fs (fun f hf => (free_tag (freeAll_mem h f hf)).1) (parts_all wPart wValue wField fs h))
set_option maxRecDepth 20000 in
theorem wFit3 : Fit3M Tryd.prog 28 := fits3_m Tryd.func28 (by kernel_rfl) rfl rfl rfl (flatB_is (by kernel_rfl)) (by kernel_rfl) (by kernel_rfl)
set_option maxRecDepth 20000 in
theorem wFit2 : Fit2M Tryd.prog 13 := fits2_m (te := 65) (tb := 32) Tryd.func13 (by kernel_rfl) rfl rfl rfl (by kernel_rfl) (by kernel_rfl) (flatB_is (by kernel_rfl)) wFit3
set_option maxRecDepth 20000 in
theorem wFit : FitM Tryd.prog 4 := fits1_m Tryd.func4 (by kernel_rfl) rfl rfl rfl (flatB_is (by kernel_rfl)) (by kernel_rfl) (by kernel_rfl) (by kernel_rfl) (by kernel_rfl) (by kernel_rfl) wFit2
set_option maxRecDepth 20000 in
theorem verM : VerM Tryd.prog 7 := version_m (P := Tryd.prog) (f := 7) Tryd.func7 (by kernel_rfl) rfl rfl rfl (by kernel_rfl) (by kernel_rfl)
end Go.Proofs.YthmejlgblhjcdaaDoor
