/- The parts of the law on IncrementalAlterConfigsResponse. Printed by gen_msg.py. -/
import Derived.Test.YtfapegflnipofaaGreatDoorPIncrementalAlterConfigsResponse
import Derived.Test.YtfapegflnipofaaGreatDoorCIncrementalAlterConfigsResponse
import Derived.Test.YtfapegflnipofaaGreatDoorKqP06
set_option linter.unusedVariables false
set_option linter.unusedSimpArgs false
namespace Go.Proofs.YtfapegflnipofaaGreatDoor.IncrementalAlterConfigsResponse
open Go.Kq
def tResource : List Ty := [.int .i16, .pstr, .int .i8, .str, .tags]
def gResource : Rd := (rdCons (rdOne fun _ _ => gNum .i16 2) (rdCons (rdOne fun _ fl st => if fl then gCNStr st else gNStr st) (rdCons (rdOne fun _ _ => gI8) (rdCons (rdOne fun _ fl st => if fl then gCStr st else gStr st) (rdCons rdTagsF rdSt0)))))
theorem dResource : DefM Tryz.prog 149 (tResource) id := def_skip Tryz.func149 (by kernel_rfl) (by kernel_rfl) (by kernel_rfl)
def tR : List Ty := [.int .i32, .arr (.st tResource), .tags]
def gR : Rd := (rdCons (rdOne fun _ _ => gNum .i32 4) (rdCons (rdArr (fun _ fl st => if fl then gCALen st else gALen st) gResource) (rdCons rdTagsF rdSt0)))
theorem dR : DefM Tryz.prog 107 (.int .i16 :: tR) id := def_skip Tryz.func107 (by kernel_rfl) (by kernel_rfl) (by kernel_rfl)
def fl : Int → Bool := fun v => decide (v ≥ 1)
set_option maxRecDepth 20000 in
theorem rf : ReadM Tryz.prog 1 108 tR [.n 0, .nil, .nil] fl gR := by
  refine root Tryz.func108 (by kernel_rfl) rfl rfl rfl ?_ dR (fun _ => rfl) readerT (by kernel_rfl) (by kernel_rfl) (isL_cons (isL_cons (isL_cons isL_nil))) (by decide)
  refine bdy_fl ?_ (by decide)
  refine Run.cons (m := 11) (o' := 2) ?_ ?_ rfl (by decide) (by decide) (isL_cons (isL_cons isL_nil))
  · skip
    exact (fld_asg (asg_call mInt32 (by decide)) (by kernel_rfl) (by kernel_rfl) rfl (by decide))
  refine Run.cons (m := 12) (o' := 3) ?_ ?_ rfl (by decide) (by decide) (isL_cons isL_nil)
  · skip
    refine fld_arr (m' := 16) (e0 := 144) (bs := 48) okM completeM (asg_flex (u := 9) (asg_call mCompactArrayLen (by decide)) (asg_call mArrayLen (by decide)) rfl (by decide)) ?_ (by kernel_rfl) (by decide) (by kernel_rfl) (by kernel_rfl) (by kernel_rfl) (zeroB_is (z := [.int .i16 0, .pointer none, .int .i8 0, .string ⟨#[]⟩, .map none]) (by kernel_rfl)) rfl rfl (by decide)
    refine elt_st (m' := 18) (et := 144) (z0 := [.n 0, .nil, .n 0, .s [], .nil]) (bs := 48) ?_ dResource ?_ (by kernel_rfl) (by decide)
    · skip
      refine Fld.cons (m := 18) (m' := 19) (o' := 1) ?_ ?_ rfl (by decide) (by decide) (by decide)
      · skip
        exact (fld_asg (asg_call mInt16 (by decide)) (by kernel_rfl) (by kernel_rfl) rfl (by decide))
      refine Fld.cons (m := 19) (m' := 20) (o' := 2) ?_ ?_ rfl (by decide) (by decide) (by decide)
      · skip
        exact (fld_var (fld_asg (asg_flex (u := 9) (asg_uns (asg_call mUnsafeCompactNullableString (by decide)) (asg_call mCompactNullableString (by decide)) (by decide)) (asg_uns (asg_call mUnsafeNullableString (by decide)) (asg_call mNullableString (by decide)) (by decide)) rfl (by decide)) (by kernel_rfl) (by kernel_rfl) rfl (by decide)) (by decide))
      refine Fld.cons (m := 20) (m' := 23) (o' := 3) ?_ ?_ rfl (by decide) (by decide) (by decide)
      · skip
        exact (fld_var (fld_alias (asg_copy (asg_call mInt8 (by decide)) (by decide)) (by kernel_rfl) (by kernel_rfl) rfl (by decide)) (by decide))
      refine Fld.cons (m := 23) (m' := 105) (o' := 4) ?_ ?_ rfl (by decide) (by decide) (by decide)
      · skip
        exact (fld_var (fld_asg (asg_uns (asg_flex (u := 9) (asg_call mUnsafeCompactString (by decide)) (asg_call mUnsafeString (by decide)) rfl (by decide)) (asg_flex (u := 9) (asg_call mCompactString (by decide)) (asg_call mString (by decide)) rfl (by decide)) (by decide)) (by kernel_rfl) (by kernel_rfl) rfl (by decide)) (by decide))
      refine Fld.one ?_
      exact (fld_tags (tf := 9) mTags (flatB_is (by kernel_rfl)) (by kernel_rfl) rfl (by decide))
    · exact fun w => reps_zero tResource
  refine Run.cons (m := 115) (o' := 4) ?_ ?_ rfl (by decide) (by decide) isL_nil
  · skip
    exact (fld_tags (tf := 9) mTags (flatB_is (by kernel_rfl)) (by kernel_rfl) rfl (by decide))
  exact run_end completeM (by decide)
theorem setM : SetM Tryz.prog 66 := set_m Tryz.func66 (by kernel_rfl) rfl rfl rfl (by kernel_rfl) (by kernel_rfl)
theorem newM : NewM Tryz.prog 63 (.int .i16 :: tR) [.n 0, .n 0, .nil, .nil] := new_m (d := id) Tryz.func63 (by kernel_rfl) rfl rfl rfl (zeroB_is (by kernel_rfl)) dR (by decide)
theorem maxM : MaxM Tryz.prog 28 1 := maxd_m (tys := .int .i16 :: tR) (ds := [.n 0, .n 0, .nil, .nil]) (mx := ((1 : Nat) : Int)) (fmx := 64) (fnw := 63) (f := 28) (P := Tryz.prog) Tryz.func28 (by kernel_rfl) rfl rfl rfl newM (maxv_m Tryz.func64 (by kernel_rfl) rfl rfl rfl) (by decide) (by kernel_rfl) (by kernel_rfl)
theorem rd1 : ReadD Tryz.prog 1 67 tR [.n 0, .nil, .nil] fl gR := read_d rf Tryz.func67 (by kernel_rfl) rfl rfl rfl
theorem door : BehM Tryz.prog 1 30 (behRes gR fl fun ver => apSt ((fun _ => []) :: gaIncrementalAlterConfigsResponse ver)) := behind_m (te := 5) Tryz.func30 (by kernel_rfl) rfl rfl rfl (by kernel_rfl) octT (by kernel_rfl) (by kernel_rfl) (by kernel_rfl) newM setM rd1 app
theorem plResource (ver : Int) (hv : 0 ≤ ver) (t : T) (hk : KeysOk t) : InvL gResource ver (decide (ver ≥ 1)) (gaIncrementalAlterConfigsResponseResource ver) (partW fssIncrementalAlterConfigsResponseResource ver (decide (ver ≥ 1)) t) := by
  refine inv_part (by kernel_rfl) ?_
  refine invb_cons (inv_has (has_all hv (by decide) (by decide)) invf_i16) ?_
  refine invb_cons (inv_has (has_all hv (by decide) (by decide)) invf_pstr) ?_
  refine invb_cons (inv_has (has_all hv (by decide) (by decide)) invf_i8) ?_
  refine invb_cons (inv_has (has_all hv (by decide) (by decide)) (invf_str (by decide))) ?_
  exact invb_nil (inv_tagend hk)
theorem poResource (ver : Int) (hv : 0 ≤ ver) (t : T) : 1 ≤ (partW fssIncrementalAlterConfigsResponseResource ver (decide (ver ≥ 1)) t).length := part_pos (by kernel_rfl) (body_head (has_all hv (by decide) (by decide)) (fieldW_pos (by decide)))
theorem plR (ver : Int) (hv : 0 ≤ ver) (t : T) (hk : KeysOk t) : InvL gR ver (decide (ver ≥ 1)) (gaIncrementalAlterConfigsResponse ver) (partW fsIncrementalAlterConfigsResponse ver (decide (ver ≥ 1)) t) := by
  refine inv_part (by kernel_rfl) ?_
  refine invb_cons (inv_has (has_all hv (by decide) (by decide)) invf_i32) ?_
  refine invb_cons (inv_has (has_all hv (by decide) (by decide)) (invf_arr (by decide) (fun z hz => inv_el (plResource ver hv z ((KeysOk.at hk.l 1).l z hz))) (fun z => value_pos10 (poResource ver hv z)))) ?_
  exact invb_nil (inv_tagend hk)
def small (t : T) : Prop := KeysOk t ∧ ∀ ver flex, (partW fsIncrementalAlterConfigsResponse ver flex t).length ≤ 2147483648
theorem law : LawB Tryz.prog 1 8 small := by
  refine lawb_m (te := 5) (mx := 1) (fs := fsIncrementalAlterConfigsResponse) (enc := partW fsIncrementalAlterConfigsResponse) Tryz.func8 (by kernel_rfl) rfl rfl rfl (by kernel_rfl) octT (by kernel_rfl) (flatB_is (by kernel_rfl)) (flatB_is (by kernel_rfl)) wFit maxM (by decide) ifsIncrementalAlterConfigsResponse verM (wWrite fsIncrementalAlterConfigsResponse (by decide)) door sameM ?_
  rintro ver h0 h1 t ⟨hk, hs⟩
  refine ⟨hs _ _, ?_⟩
  rw [show (decide ((1 : Int) ≥ 0) && decide (ver ≥ 1)) = fl ver from by simp [fl]]
  exact beh_plain (plR ver h0 t hk)
end Go.Proofs.YtfapegflnipofaaGreatDoor.IncrementalAlterConfigsResponse
