/- The reference's writing functions of this program, each by its contract. Printed by mk_swr.py. -/
import Derived.Test.YtmolcmgbadnggaaKqBeK
import Derived.Test.YtmolcmgbadnggaaKqP04
import Derived.Test.YtmolcmgbadnggaaKqP05
import Derived.Test.YtmolcmgbadnggaaKqP03
set_option linter.unusedVariables false
set_option linter.unusedSimpArgs false
namespace Go.Proofs.Ytmolcmgbadnggaa
open Go.Kq
set_option maxRecDepth 20000 in
theorem wFix : FixM Try.prog 36 := fixed_m (te := 5) Try.func36 (by kernel_rfl) rfl rfl rfl (by kernel_rfl) (by kernel_rfl) (by kernel_rfl) octT
set_option maxRecDepth 20000 in
theorem wUv : UvWM Try.prog 78 := uvarint_m (te := 5) Try.func78 (by kernel_rfl) rfl rfl rfl (by kernel_rfl) (by kernel_rfl) (by kernel_rfl) octT
set_option maxRecDepth 20000 in
theorem wWid : WidthM Try.prog 100 := width_m Try.func100 (by kernel_rfl) rfl rfl rfl
set_option maxRecDepth 20000 in
theorem wCnt : CountM Try.prog 98 := counted_m (te := 5) Try.func98 (by kernel_rfl) rfl rfl rfl (by kernel_rfl) (by kernel_rfl) (by kernel_rfl) octT wUv wFix
set_option maxRecDepth 20000 in
theorem wHas : HasM Try.prog 75 := has_m Try.func75 (by kernel_rfl) rfl rfl rfl (fBi (by kernel_rfl)) (by kernel_rfl)
set_option maxRecDepth 20000 in
theorem wNull : NullM Try.prog 66 := null_m Try.func66 (by kernel_rfl) rfl rfl rfl (fBi (by kernel_rfl)) (by kernel_rfl) (fBi (by kernel_rfl)) (by kernel_rfl)
set_option maxRecDepth 20000 in
theorem wWhole : WholeM Try.prog 35 := whole_m (te := 5) (tb := 1) Try.func35 (by kernel_rfl) rfl rfl rfl (by kernel_rfl) (by kernel_rfl)
set_option maxRecDepth 20000 in
theorem wThings : ThingsM Try.prog 67 := things_m (te := 26) (tb := 88) Try.func67 (by kernel_rfl) rfl rfl rfl (by kernel_rfl) (by kernel_rfl)
set_option maxRecDepth 20000 in
theorem wAt : AtM Try.prog 33 := at_m (te := 26) (tb := 88) Try.func33 (by kernel_rfl) rfl rfl rfl (fBi (by kernel_rfl)) (by kernel_rfl) (by kernel_rfl) (by kernel_rfl)
set_option maxRecDepth 20000 in
theorem wKnown : KnownM Try.prog 68 := known_m (te := 46) (tb := 80) Try.func68 (by kernel_rfl) rfl rfl rfl (by kernel_rfl) (by kernel_rfl) (fBi (by kernel_rfl)) (by kernel_rfl) (by kernel_rfl) (by kernel_rfl)
set_option maxRecDepth 20000 in
theorem wUnk : UnkM Try.prog 34 := unknown_m (te := 55) Try.func34 (by kernel_rfl) rfl rfl rfl (by kernel_rfl) (by kernel_rfl) (fBi (by kernel_rfl)) (zeroB_is (by kernel_rfl)) (by kernel_rfl) (by kernel_rfl) (by kernel_rfl) (by kernel_rfl) wKnown
set_option maxRecDepth 20000 in
theorem wValue : ∀ (fs : List Kq.Fd) (sub : Int → Bool → T → List UInt8), PartM Try.prog 42 fs sub → ValueM Try.prog 99 fs sub := fun fs sub hPa => value_m (te := 5) Try.func99 (by kernel_rfl) rfl rfl rfl (by kernel_rfl) octT (fBi (by kernel_rfl)) (by kernel_rfl) (by kernel_rfl) (by kernel_rfl) (by kernel_rfl) (by kernel_rfl) (by kernel_rfl) (by kernel_rfl) wWhole wCnt hPa wWid wFix
set_option maxRecDepth 20000 in
theorem wField : ∀ (fd : Kq.Fd) (sub : Int → Bool → T → List UInt8), ValueM Try.prog 99 fd.sub sub → PartM Try.prog 42 fd.sub sub → FieldM Try.prog 76 fd (fun ver flex t => fieldV fd.kind fd.nul fd.of (sub ver flex) ver flex t) := fun fd sub hVa hPa => field_m (te := 5) (te5 := 26) (tb := 88) Try.func76 (by kernel_rfl) rfl rfl rfl (by kernel_rfl) octT (fBi (by kernel_rfl)) (fBi (by kernel_rfl)) (by kernel_rfl) (by kernel_rfl) (by kernel_rfl) (by kernel_rfl) (by kernel_rfl) (by kernel_rfl) (by kernel_rfl) (by kernel_rfl) wNull wThings wCnt hVa hPa wFix
set_option maxRecDepth 20000 in
theorem wPart : ∀ fs : List Kq.Fd, (∀ f ∈ fs, f.tag < 0) → (∀ fd ∈ fs, FieldM Try.prog 76 fd (fieldW fd)) → PartM Try.prog 42 fs (partW fs) := fun fs hfree hFi => part_m (te := 5) (te8 := 46) (tb := 80) (teT := 55) Try.func42 (by kernel_rfl) rfl rfl rfl (by kernel_rfl) octT (by kernel_rfl) (by kernel_rfl) (fBi (by kernel_rfl)) (by kernel_rfl) (fBi (by kernel_rfl)) (by kernel_rfl) (by kernel_rfl) (by kernel_rfl) (by kernel_rfl) (by kernel_rfl) (by kernel_rfl) (by kernel_rfl) (fBi (by kernel_rfl)) (by kernel_rfl) (by kernel_rfl) (by kernel_rfl) (by kernel_rfl) hfree hFi wHas wAt wKnown wUnk wWhole wUv
theorem wWrite (fs : List Kq.Fd) (h : freeAll fs = true) : WriteM Try.prog 19 fs (partW fs) :=
  write_m Try.func19 (by kernel_rfl) rfl rfl rfl (fBi (by kernel_rfl)) (by kernel_rfl) (by kernel_rfl) (fBi (by kernel_rfl)) (wPart fs (fun f hf => (free_tag (freeAll_mem h f hf)).1) (parts_all wPart wValue wField fs h))
set_option maxRecDepth 20000 in
theorem wFit3 : Fit3M Try.prog 61 := fits3_m Try.func61 (by kernel_rfl) rfl rfl rfl (fBi (by kernel_rfl)) (by kernel_rfl) (by kernel_rfl)
set_option maxRecDepth 20000 in
theorem wFit2 : Fit2M Try.prog 29 := fits2_m (te := 55) (tb := 32) Try.func29 (by kernel_rfl) rfl rfl rfl (by kernel_rfl) (by kernel_rfl) (fBi (by kernel_rfl)) wFit3
set_option maxRecDepth 20000 in
theorem wFit : FitM Try.prog 8 := fits1_m Try.func8 (by kernel_rfl) rfl rfl rfl (fBi (by kernel_rfl)) (by kernel_rfl) (by kernel_rfl) (by kernel_rfl) (by kernel_rfl) (by kernel_rfl) wFit2
set_option maxRecDepth 20000 in
theorem verM : VerM Try.prog 17 := version_m (P := Try.prog) (f := 17) Try.func17 (by kernel_rfl) rfl rfl rfl (by kernel_rfl) (by kernel_rfl)
end Go.Proofs.Ytmolcmgbadnggaa
