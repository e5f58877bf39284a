/- The parts of the law on SASLAuthenticateResponse. Printed by gen_msg.py. -/
import Derived.Test.YtleogmaodkgkkaaGreatDoorPSASLAuthenticateResponse
import Derived.Test.YtleogmaodkgkkaaGreatDoorCSASLAuthenticateResponse
import Derived.Test.YtleogmaodkgkkaaGreatDoorKqP06
set_option linter.unusedVariables false
set_option linter.unusedSimpArgs false
namespace Go.Proofs.YtleogmaodkgkkaaGreatDoor.SASLAuthenticateResponse
open Go.Kq
def tR : List Ty := [.int .i16, .pstr, .bytes, .int .i64, .tags]
def gR : Rd := (rdCons (rdOne fun _ _ => gNum .i16 2) (rdCons (rdOne fun _ fl st => if fl then gCNStr st else gNStr st) (rdCons (rdOne fun _ fl st => if fl then gCBytes st else gBytes st) (rdCons (rdIf (fun v => decide (v ≥ 1)) (.n 0) (rdOne fun _ _ => gNum .i64 8)) (rdCons rdTagsF rdSt0)))))
theorem dR : DefM Tryz.prog 87 (.int .i16 :: tR) id := def_skip Tryz.func87 (by kernel_rfl) (by kernel_rfl) (by kernel_rfl)
def fl : Int → Bool := fun v => decide (v ≥ 2)
set_option maxRecDepth 20000 in
theorem rf : ReadM Tryz.prog 0 88 tR [.n 0, .nil, .nil, .n 0, .nil] fl gR := by
  refine root Tryz.func88 (by kernel_rfl) rfl rfl rfl ?_ dR (fun _ => rfl) readerT (by kernel_rfl) (by kernel_rfl) (isL_cons (isL_cons (isL_cons (isL_cons (isL_cons isL_nil))))) (by decide)
  refine bdy_fl ?_ (by decide)
  refine Run.cons (m := 11) (o' := 2) ?_ ?_ rfl (by decide) (by decide) (isL_cons (isL_cons (isL_cons (isL_cons isL_nil))))
  · skip
    exact (fld_asg (asg_call mInt16 (by decide)) (by kernel_rfl) (by kernel_rfl) rfl (by decide))
  refine Run.cons (m := 12) (o' := 3) ?_ ?_ rfl (by decide) (by decide) (isL_cons (isL_cons (isL_cons isL_nil)))
  · skip
    exact (fld_var (fld_asg (asg_flex (u := 9) (asg_uns (asg_call mUnsafeCompactNullableString (by decide)) (asg_call mCompactNullableString (by decide)) (by decide)) (asg_uns (asg_call mUnsafeNullableString (by decide)) (asg_call mNullableString (by decide)) (by decide)) rfl (by decide)) (by kernel_rfl) (by kernel_rfl) rfl (by decide)) (by decide))
  refine Run.cons (m := 13) (o' := 4) ?_ ?_ rfl (by decide) (by decide) (isL_cons (isL_cons isL_nil))
  · skip
    exact (fld_var (fld_asg (asg_flex (u := 9) (asg_call mCompactBytes (by decide)) (asg_call mBytes (by decide)) rfl (by decide)) (by kernel_rfl) (by kernel_rfl) rfl (by decide)) (by decide))
  refine Run.cons (m := 14) (o' := 5) ?_ ?_ rfl (by decide) (by decide) (isL_cons isL_nil)
  · skip
    exact (fld_if (fld_asg (asg_call mInt64 (by decide)) (by kernel_rfl) (by kernel_rfl) rfl (by decide)) (fun i => rfl) (by decide))
  refine Run.cons (m := 58) (o' := 6) ?_ ?_ rfl (by decide) (by decide) isL_nil
  · skip
    exact (fld_tags (tf := 9) mTags (flatB_is (by kernel_rfl)) (by kernel_rfl) rfl (by decide))
  exact run_end completeM (by decide)
theorem setM : SetM Tryz.prog 41 := set_m Tryz.func41 (by kernel_rfl) rfl rfl rfl (by kernel_rfl) (by kernel_rfl)
theorem newM : NewM Tryz.prog 39 (.int .i16 :: tR) [.n 0, .n 0, .nil, .nil, .n 0, .nil] := new_m (d := id) Tryz.func39 (by kernel_rfl) rfl rfl rfl (zeroB_is (by kernel_rfl)) dR (by decide)
theorem maxM : MaxM Tryz.prog 16 2 := maxd_m (tys := .int .i16 :: tR) (ds := [.n 0, .n 0, .nil, .nil, .n 0, .nil]) (mx := ((2 : Nat) : Int)) (fmx := 40) (fnw := 39) (f := 16) (P := Tryz.prog) Tryz.func16 (by kernel_rfl) rfl rfl rfl newM (maxv_m Tryz.func40 (by kernel_rfl) rfl rfl rfl) (by decide) (by kernel_rfl) (by kernel_rfl)
theorem rd1 : ReadD Tryz.prog 0 42 tR [.n 0, .nil, .nil, .n 0, .nil] fl gR := read_d rf Tryz.func42 (by kernel_rfl) rfl rfl rfl
theorem door : BehM Tryz.prog 0 18 (behRes gR fl fun ver => apSt ((fun _ => []) :: gaSASLAuthenticateResponse ver)) := behind_m (te := 5) Tryz.func18 (by kernel_rfl) rfl rfl rfl (by kernel_rfl) octT (by kernel_rfl) (by kernel_rfl) (by kernel_rfl) newM setM rd1 app
theorem plR (ver : Int) (hv : 0 ≤ ver) (t : T) (hk : KeysOk t) : InvL gR ver (decide (ver ≥ 2)) (gaSASLAuthenticateResponse ver) (partW fsSASLAuthenticateResponse ver (decide (ver ≥ 2)) t) := by
  refine inv_part (by kernel_rfl) ?_
  refine invb_cons (inv_has (has_all hv (by decide) (by decide)) invf_i16) ?_
  refine invb_cons (inv_has (has_all hv (by decide) (by decide)) invf_pstr) ?_
  refine invb_cons (inv_has (has_all hv (by decide) (by decide)) (invf_bytes (by decide))) ?_
  refine invb_cons (inv_gate (p := fun v => decide (v ≥ 1)) (has_ge (by decide)) invf_i64) ?_
  exact invb_nil (inv_tagend hk)
def small (t : T) : Prop := KeysOk t ∧ ∀ ver flex, (partW fsSASLAuthenticateResponse ver flex t).length ≤ 2147483648
theorem law : LawB Tryz.prog 0 4 small := by
  refine lawb_m (te := 5) (mx := 2) (fs := fsSASLAuthenticateResponse) (enc := partW fsSASLAuthenticateResponse) Tryz.func4 (by kernel_rfl) rfl rfl rfl (by kernel_rfl) octT (by kernel_rfl) (flatB_is (by kernel_rfl)) (flatB_is (by kernel_rfl)) wFit maxM (by decide) ifsSASLAuthenticateResponse verM (wWrite fsSASLAuthenticateResponse (by decide)) door sameM ?_
  rintro ver h0 h1 t ⟨hk, hs⟩
  refine ⟨hs _ _, ?_⟩
  rw [show (decide ((2 : Int) ≥ 0) && decide (ver ≥ 2)) = fl ver from by simp [fl]]
  exact beh_plain (plR ver h0 t hk)
end Go.Proofs.YtleogmaodkgkkaaGreatDoor.SASLAuthenticateResponse
