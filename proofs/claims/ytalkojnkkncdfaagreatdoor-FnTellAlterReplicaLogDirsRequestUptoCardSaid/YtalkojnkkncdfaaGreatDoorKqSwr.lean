/- The reference's writing functions of this program, each by its contract. Printed by mk_swr.py. -/
import Derived.Test.YtalkojnkkncdfaaGreatDoorKqBeh
import Derived.Test.YtalkojnkkncdfaaGreatDoorKqP02
import Derived.Test.YtalkojnkkncdfaaGreatDoorKqP03
import Derived.Test.YtalkojnkkncdfaaGreatDoorKqP05
set_option linter.unusedVariables false
set_option linter.unusedSimpArgs false
namespace Go.Proofs.YtalkojnkkncdfaaGreatDoor
open Go.Kq
set_option maxRecDepth 20000 in
theorem wFix : FixM Tryz.prog 70 := fixed_m (te := 5) Tryz.func70 (by kernel_rfl) rfl rfl rfl (by kernel_rfl) (by kernel_rfl) (by kernel_rfl) octT
set_option maxRecDepth 20000 in
theorem wUv : UvWM Tryz.prog 69 := uvarint_m (te := 5) Tryz.func69 (by kernel_rfl) rfl rfl rfl (by kernel_rfl) (by kernel_rfl) (by kernel_rfl) octT
set_option maxRecDepth 20000 in
theorem wWid : WidthM Tryz.prog 71 := width_m Tryz.func71 (by kernel_rfl) rfl rfl rfl
set_option maxRecDepth 20000 in
theorem wCnt : CountM Tryz.prog 109 := counted_m (te := 5) Tryz.func109 (by kernel_rfl) rfl rfl rfl (by kernel_rfl) (by kernel_rfl) (by kernel_rfl) octT wUv wFix
set_option maxRecDepth 20000 in
theorem wHas : HasM Tryz.prog 34 := has_m Tryz.func34 (by kernel_rfl) rfl rfl rfl (flatB_is (by kernel_rfl)) (by kernel_rfl)
set_option maxRecDepth 20000 in
theorem wNull : NullM Tryz.prog 72 := null_m Tryz.func72 (by kernel_rfl) rfl rfl rfl (flatB_is (by kernel_rfl)) (by kernel_rfl) (flatB_is (by kernel_rfl)) (by kernel_rfl)
set_option maxRecDepth 20000 in
theorem wWhole : WholeM Tryz.prog 40 := whole_m (te := 5) (tb := 1) Tryz.func40 (by kernel_rfl) rfl rfl rfl (by kernel_rfl) (by kernel_rfl)
set_option maxRecDepth 20000 in
theorem wThings : ThingsM Tryz.prog 73 := things_m (te := 26) (tb := 88) Tryz.func73 (by kernel_rfl) rfl rfl rfl (by kernel_rfl) (by kernel_rfl)
set_option maxRecDepth 20000 in
theorem wAt : AtM Tryz.prog 33 := at_m (te := 26) (tb := 88) Tryz.func33 (by kernel_rfl) rfl rfl rfl (flatB_is (by kernel_rfl)) (by kernel_rfl) (by kernel_rfl) (by kernel_rfl)
set_option maxRecDepth 20000 in
theorem wKnown : KnownM Tryz.prog 68 := known_m (te := 52) (tb := 80) Tryz.func68 (by kernel_rfl) rfl rfl rfl (by kernel_rfl) (by kernel_rfl) (flatB_is (by kernel_rfl)) (by kernel_rfl) (by kernel_rfl) (by kernel_rfl)
set_option maxRecDepth 20000 in
theorem wUnk : UnkM Tryz.prog 38 := unknown_m (te := 66) Tryz.func38 (by kernel_rfl) rfl rfl rfl (by kernel_rfl) (by kernel_rfl) (flatB_is (by kernel_rfl)) (zeroB_is (by kernel_rfl)) (by kernel_rfl) (by kernel_rfl) (by kernel_rfl) (by kernel_rfl) wKnown
set_option maxRecDepth 20000 in
theorem wValue : ∀ (fs : List Kq.Fd) (sub : Int → Bool → T → List UInt8), PartM Tryz.prog 32 fs sub → ValueM Tryz.prog 110 fs sub := fun fs sub hPa => value_m (te := 5) Tryz.func110 (by kernel_rfl) rfl rfl rfl (by kernel_rfl) octT (flatB_is (by kernel_rfl)) (by kernel_rfl) (by kernel_rfl) (by kernel_rfl) (by kernel_rfl) (by kernel_rfl) (by kernel_rfl) (by kernel_rfl) wWhole wCnt hPa wWid wFix
set_option maxRecDepth 20000 in
theorem wField : ∀ (fd : Kq.Fd) (sub : Int → Bool → T → List UInt8), ValueM Tryz.prog 110 fd.sub sub → PartM Tryz.prog 32 fd.sub sub → FieldM Tryz.prog 67 fd (fun ver flex t => fieldV fd.kind fd.nul fd.of (sub ver flex) ver flex t) := fun fd sub hVa hPa => field_m (te := 5) (te5 := 26) (tb := 88) Tryz.func67 (by kernel_rfl) rfl rfl rfl (by kernel_rfl) octT (flatB_is (by kernel_rfl)) (flatB_is (by kernel_rfl)) (by kernel_rfl) (by kernel_rfl) (by kernel_rfl) (by kernel_rfl) (by kernel_rfl) (by kernel_rfl) (by kernel_rfl) (by kernel_rfl) wNull wThings wCnt hVa hPa wFix
set_option maxRecDepth 20000 in
theorem wPart : ∀ fs : List Kq.Fd, (∀ f ∈ fs, f.tag < 0) → (∀ fd ∈ fs, FieldM Tryz.prog 67 fd (fieldW fd)) → PartM Tryz.prog 32 fs (partW fs) := fun fs hfree hFi => part_m (te := 5) (te8 := 52) (tb := 80) (teT := 66) Tryz.func32 (by kernel_rfl) rfl rfl rfl (by kernel_rfl) octT (by kernel_rfl) (by kernel_rfl) (flatB_is (by kernel_rfl)) (by kernel_rfl) (flatB_is (by kernel_rfl)) (by kernel_rfl) (by kernel_rfl) (by kernel_rfl) (by kernel_rfl) (by kernel_rfl) (by kernel_rfl) (by kernel_rfl) (flatB_is (by kernel_rfl)) (by kernel_rfl) (by kernel_rfl) (by kernel_rfl) (by kernel_rfl) hfree hFi wHas wAt wKnown wUnk wWhole wUv
theorem wWrite (fs : List Kq.Fd) (h : freeAll fs = true) : WriteM Tryz.prog 12 fs (partW fs) :=
  write_m Tryz.func12 (by kernel_rfl) rfl rfl rfl (flatB_is (by kernel_rfl)) (by kernel_rfl) (by kernel_rfl) (flatB_is (by kernel_rfl)) (wPart fs (fun f hf => (free_tag (freeAll_mem h f hf)).1) (parts_all wPart wValue wField fs h))
set_option maxRecDepth 20000 in
theorem wFit3 : Fit3M Tryz.prog 59 := fits3_m Tryz.func59 (by kernel_rfl) rfl rfl rfl (flatB_is (by kernel_rfl)) (by kernel_rfl) (by kernel_rfl)
set_option maxRecDepth 20000 in
theorem wFit2 : Fit2M Tryz.prog 25 := fits2_m (te := 66) (tb := 32) Tryz.func25 (by kernel_rfl) rfl rfl rfl (by kernel_rfl) (by kernel_rfl) (flatB_is (by kernel_rfl)) wFit3
set_option maxRecDepth 20000 in
theorem wFit : FitM Tryz.prog 7 := fits1_m Tryz.func7 (by kernel_rfl) rfl rfl rfl (flatB_is (by kernel_rfl)) (by kernel_rfl) (by kernel_rfl) (by kernel_rfl) (by kernel_rfl) (by kernel_rfl) wFit2
set_option maxRecDepth 20000 in
theorem verM : VerM Tryz.prog 10 := version_m (P := Tryz.prog) (f := 10) Tryz.func10 (by kernel_rfl) rfl rfl rfl (by kernel_rfl) (by kernel_rfl)
end Go.Proofs.YtalkojnkkncdfaaGreatDoor
