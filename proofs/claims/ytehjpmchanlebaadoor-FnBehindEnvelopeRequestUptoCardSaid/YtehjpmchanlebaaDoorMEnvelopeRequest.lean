/- The parts of the law on EnvelopeRequest. Printed by gen_msg.py. -/
import Derived.Test.YtehjpmchanlebaaDoorPEnvelopeRequest
import Derived.Test.YtehjpmchanlebaaDoorCEnvelopeRequest
import Derived.Test.YtehjpmchanlebaaDoorKqP05
set_option linter.unusedVariables false
set_option linter.unusedSimpArgs false
namespace Go.Proofs.YtehjpmchanlebaaDoor.EnvelopeRequest
open Go.Kq
theorem mNullableBytes : MethV Tryd.prog 92 .bytes gNBytes := nbytes_m Tryd.func92 (by kernel_rfl) rfl rfl rfl (by kernel_rfl) (by kernel_rfl) mInt32 spanM
theorem mCompactNullableBytes : MethV Tryd.prog 91 .bytes gCNBytes := cnbytes_m Tryd.func91 (by kernel_rfl) rfl rfl rfl (by kernel_rfl) (by kernel_rfl) mUvarint spanM
def tR : List Ty := [.bytes, .bytes, .bytes, .tags]
def gR : Rd := (rdCons (rdOne fun _ fl st => if fl then gCBytes st else gBytes st) (rdCons (rdOne fun _ fl st => if fl then gCNBytes st else gNBytes st) (rdCons (rdOne fun _ fl st => if fl then gCBytes st else gBytes st) (rdCons rdTagsF rdSt0))))
theorem dR : DefM Tryd.prog 68 (.int .i16 :: tR) id := def_skip Tryd.func68 (by kernel_rfl) (by kernel_rfl) (by kernel_rfl)
def fl : Int → Bool := fun v => decide (v ≥ 0)
set_option maxRecDepth 20000 in
theorem rf : ReadM Tryd.prog 1 69 tR [.nil, .nil, .nil, .nil] fl gR := by
  refine root Tryd.func69 (by kernel_rfl) rfl rfl rfl ?_ dR (fun _ => rfl) readerT (by kernel_rfl) (by kernel_rfl) (isL_cons (isL_cons (isL_cons (isL_cons isL_nil)))) (by decide)
  refine bdy_fl ?_ (by decide)
  refine Run.cons (m := 11) (o' := 2) ?_ ?_ rfl (by decide) (by decide) (isL_cons (isL_cons (isL_cons isL_nil)))
  · skip
    exact (fld_var (fld_asg (asg_flex (u := 9) (asg_call mCompactBytes (by decide)) (asg_call mBytes (by decide)) rfl (by decide)) (by kernel_rfl) (by kernel_rfl) rfl (by decide)) (by decide))
  refine Run.cons (m := 12) (o' := 3) ?_ ?_ rfl (by decide) (by decide) (isL_cons (isL_cons isL_nil))
  · skip
    exact (fld_var (fld_asg (asg_flex (u := 9) (asg_call mCompactNullableBytes (by decide)) (asg_call mNullableBytes (by decide)) rfl (by decide)) (by kernel_rfl) (by kernel_rfl) rfl (by decide)) (by decide))
  refine Run.cons (m := 13) (o' := 4) ?_ ?_ rfl (by decide) (by decide) (isL_cons isL_nil)
  · skip
    exact (fld_var (fld_asg (asg_flex (u := 9) (asg_call mCompactBytes (by decide)) (asg_call mBytes (by decide)) rfl (by decide)) (by kernel_rfl) (by kernel_rfl) rfl (by decide)) (by decide))
  refine Run.cons (m := 48) (o' := 5) ?_ ?_ rfl (by decide) (by decide) isL_nil
  · skip
    exact (fld_tags (tf := 9) mTags (flatB_is (by kernel_rfl)) (by kernel_rfl) rfl (by decide))
  exact run_end completeM (by decide)
theorem setM : SetM Tryd.prog 42 := set_m Tryd.func42 (by kernel_rfl) rfl rfl rfl (by kernel_rfl) (by kernel_rfl)
theorem newM : NewM Tryd.prog 40 (.int .i16 :: tR) [.n 0, .nil, .nil, .nil, .nil] := new_m (d := id) Tryd.func40 (by kernel_rfl) rfl rfl rfl (zeroB_is (by kernel_rfl)) dR (by decide)
theorem maxM : MaxM Tryd.prog 20 0 := maxd_m (tys := .int .i16 :: tR) (ds := [.n 0, .nil, .nil, .nil, .nil]) (mx := ((0 : Nat) : Int)) (fmx := 41) (fnw := 40) (f := 20) (P := Tryd.prog) Tryd.func20 (by kernel_rfl) rfl rfl rfl newM (maxv_m Tryd.func41 (by kernel_rfl) rfl rfl rfl) (by decide) (by kernel_rfl) (by kernel_rfl)
theorem rd1 : ReadD Tryd.prog 1 43 tR [.nil, .nil, .nil, .nil] fl gR := read_d rf Tryd.func43 (by kernel_rfl) rfl rfl rfl
theorem door : BehM Tryd.prog 1 22 (behRes gR fl fun ver => apSt ((fun _ => []) :: gaEnvelopeRequest ver)) := behind_m (te := 5) Tryd.func22 (by kernel_rfl) rfl rfl rfl (by kernel_rfl) octT (by kernel_rfl) (by kernel_rfl) (by kernel_rfl) newM setM rd1 app
theorem plR (ver : Int) (hv : 0 ≤ ver) (t : T) (hk : KeysOk t) : InvL gR ver (decide (ver ≥ 0)) (gaEnvelopeRequest ver) (partW fsEnvelopeRequest ver (decide (ver ≥ 0)) t) := by
  refine inv_part (by kernel_rfl) ?_
  refine invb_cons (inv_has (has_all hv (by decide) (by decide)) (invf_bytes (by decide))) ?_
  refine invb_cons (inv_has (has_all hv (by decide) (by decide)) (invf_nbytes)) ?_
  refine invb_cons (inv_has (has_all hv (by decide) (by decide)) (invf_bytes (by decide))) ?_
  exact invb_nil (inv_tagend hk)
def small (t : T) : Prop := KeysOk t ∧ ∀ ver flex, (partW fsEnvelopeRequest ver flex t).length ≤ 2147483648
theorem law : LawB Tryd.prog 1 6 small := by
  refine lawb_m (te := 5) (mx := 0) (fs := fsEnvelopeRequest) (enc := partW fsEnvelopeRequest) Tryd.func6 (by kernel_rfl) rfl rfl rfl (by kernel_rfl) octT (by kernel_rfl) (flatB_is (by kernel_rfl)) (flatB_is (by kernel_rfl)) wFit maxM (by decide) ifsEnvelopeRequest verM (wWrite fsEnvelopeRequest (by decide)) door sameM ?_
  rintro ver h0 h1 t ⟨hk, hs⟩
  refine ⟨hs _ _, ?_⟩
  rw [show (decide ((0 : Int) ≥ 0) && decide (ver ≥ 0)) = fl ver from by simp [fl]]
  exact beh_plain (plR ver h0 t hk)
end Go.Proofs.YtehjpmchanlebaaDoor.EnvelopeRequest
