/- The reference's writing functions of this program, each by its contract. Printed by mk_swr.py. -/
import Derived.Test.YtdigpekcblpedaaKqBeK
import Derived.Test.YtdigpekcblpedaaKqP04
import Derived.Test.YtdigpekcblpedaaKqP05
import Derived.Test.YtdigpekcblpedaaKqP06
import Derived.Test.YtdigpekcblpedaaKqP03
set_option linter.unusedVariables false
set_option linter.unusedSimpArgs false
namespace Go.Proofs.Ytdigpekcblpedaa
open Go.Kq
set_option maxRecDepth 20000 in
theorem wFix : FixM Try.prog 60 := fixed_m (te := 5) Try.func60 (by kernel_rfl) rfl rfl rfl (by kernel_rfl) (by kernel_rfl) (by kernel_rfl) octT
set_option maxRecDepth 20000 in
theorem wUv : UvWM Try.prog 76 := uvarint_m (te := 5) Try.func76 (by kernel_rfl) rfl rfl rfl (by kernel_rfl) (by kernel_rfl) (by kernel_rfl) octT
set_option maxRecDepth 20000 in
theorem wWid : WidthM Try.prog 99 := width_m Try.func99 (by kernel_rfl) rfl rfl rfl
set_option maxRecDepth 20000 in
theorem wCnt : CountM Try.prog 97 := counted_m (te := 5) Try.func97 (by kernel_rfl) rfl rfl rfl (by kernel_rfl) (by kernel_rfl) (by kernel_rfl) octT wUv wFix
set_option maxRecDepth 20000 in
theorem wHas : HasM Try.prog 73 := has_m Try.func73 (by kernel_rfl) rfl rfl rfl (fBi (by kernel_rfl)) (by kernel_rfl)
set_option maxRecDepth 20000 in
theorem wNull : NullM Try.prog 70 := null_m Try.func70 (by kernel_rfl) rfl rfl rfl (fBi (by kernel_rfl)) (by kernel_rfl) (fBi (by kernel_rfl)) (by kernel_rfl)
set_option maxRecDepth 20000 in
theorem wWhole : WholeM Try.prog 38 := whole_m (te := 5) (tb := 1) Try.func38 (by kernel_rfl) rfl rfl rfl (by kernel_rfl) (by kernel_rfl)
set_option maxRecDepth 20000 in
theorem wThings : ThingsM Try.prog 71 := things_m (te := 26) (tb := 88) Try.func71 (by kernel_rfl) rfl rfl rfl (by kernel_rfl) (by kernel_rfl)
set_option maxRecDepth 20000 in
theorem wAt : AtM Try.prog 36 := at_m (te := 26) (tb := 88) Try.func36 (by kernel_rfl) rfl rfl rfl (fBi (by kernel_rfl)) (by kernel_rfl) (by kernel_rfl) (by kernel_rfl)
set_option maxRecDepth 20000 in
theorem wKnown : KnownM Try.prog 72 := known_m (te := 50) (tb := 80) Try.func72 (by kernel_rfl) rfl rfl rfl (by kernel_rfl) (by kernel_rfl) (fBi (by kernel_rfl)) (by kernel_rfl) (by kernel_rfl) (by kernel_rfl)
set_option maxRecDepth 20000 in
theorem wUnk : UnkM Try.prog 37 := unknown_m (te := 61) Try.func37 (by kernel_rfl) rfl rfl rfl (by kernel_rfl) (by kernel_rfl) (fBi (by kernel_rfl)) (zeroB_is (by kernel_rfl)) (by kernel_rfl) (by kernel_rfl) (by kernel_rfl) (by kernel_rfl) wKnown
set_option maxRecDepth 20000 in
theorem wValue : ∀ (fs : List Kq.Fd) (sub : Int → Bool → T → List UInt8), PartM Try.prog 39 fs sub → ValueM Try.prog 98 fs sub := fun fs sub hPa => value_m (te := 5) Try.func98 (by kernel_rfl) rfl rfl rfl (by kernel_rfl) octT (fBi (by kernel_rfl)) (by kernel_rfl) (by kernel_rfl) (by kernel_rfl) (by kernel_rfl) (by kernel_rfl) (by kernel_rfl) (by kernel_rfl) wWhole wCnt hPa wWid wFix
set_option maxRecDepth 20000 in
theorem wField : ∀ (fd : Kq.Fd) (sub : Int → Bool → T → List UInt8), ValueM Try.prog 98 fd.sub sub → PartM Try.prog 39 fd.sub sub → FieldM Try.prog 74 fd (fun ver flex t => fieldV fd.kind fd.nul fd.of (sub ver flex) ver flex t) := fun fd sub hVa hPa => field_m (te := 5) (te5 := 26) (tb := 88) Try.func74 (by kernel_rfl) rfl rfl rfl (by kernel_rfl) octT (fBi (by kernel_rfl)) (fBi (by kernel_rfl)) (by kernel_rfl) (by kernel_rfl) (by kernel_rfl) (by kernel_rfl) (by kernel_rfl) (by kernel_rfl) (by kernel_rfl) (by kernel_rfl) wNull wThings wCnt hVa hPa wFix
set_option maxRecDepth 20000 in
theorem wPart : ∀ fs : List Kq.Fd, (∀ f ∈ fs, f.tag < 0) → (∀ fd ∈ fs, FieldM Try.prog 74 fd (fieldW fd)) → PartM Try.prog 39 fs (partW fs) := fun fs hfree hFi => part_m (te := 5) (te8 := 50) (tb := 80) (teT := 61) Try.func39 (by kernel_rfl) rfl rfl rfl (by kernel_rfl) octT (by kernel_rfl) (by kernel_rfl) (fBi (by kernel_rfl)) (by kernel_rfl) (fBi (by kernel_rfl)) (by kernel_rfl) (by kernel_rfl) (by kernel_rfl) (by kernel_rfl) (by kernel_rfl) (by kernel_rfl) (by kernel_rfl) (fBi (by kernel_rfl)) (by kernel_rfl) (by kernel_rfl) (by kernel_rfl) (by kernel_rfl) hfree hFi wHas wAt wKnown wUnk wWhole wUv
theorem wWrite (fs : List Kq.Fd) (h : freeAll fs = true) : WriteM Try.prog 16 fs (partW fs) :=
  write_m Try.func16 (by kernel_rfl) rfl rfl rfl (fBi (by kernel_rfl)) (by kernel_rfl) (by kernel_rfl) (fBi (by kernel_rfl)) (wPart fs (fun f hf => (free_tag (freeAll_mem h f hf)).1) (parts_all wPart wValue wField fs h))
set_option maxRecDepth 20000 in
theorem wFit3 : Fit3M Try.prog 61 := fits3_m Try.func61 (by kernel_rfl) rfl rfl rfl (fBi (by kernel_rfl)) (by kernel_rfl) (by kernel_rfl)
set_option maxRecDepth 20000 in
theorem wFit2 : Fit2M Try.prog 29 := fits2_m (te := 61) (tb := 32) Try.func29 (by kernel_rfl) rfl rfl rfl (by kernel_rfl) (by kernel_rfl) (fBi (by kernel_rfl)) wFit3
set_option maxRecDepth 20000 in
theorem wFit : FitM Try.prog 8 := fits1_m Try.func8 (by kernel_rfl) rfl rfl rfl (fBi (by kernel_rfl)) (by kernel_rfl) (by kernel_rfl) (by kernel_rfl) (by kernel_rfl) (by kernel_rfl) wFit2
set_option maxRecDepth 20000 in
theorem verM : VerM Try.prog 11 := version_m (P := Try.prog) (f := 11) Try.func11 (by kernel_rfl) rfl rfl rfl (by kernel_rfl) (by kernel_rfl)
end Go.Proofs.Ytdigpekcblpedaa
