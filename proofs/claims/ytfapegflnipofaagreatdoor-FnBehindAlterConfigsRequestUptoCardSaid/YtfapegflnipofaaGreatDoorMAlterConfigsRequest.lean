/- The parts of the law on AlterConfigsRequest. Printed by gen_msg.py. -/
import Derived.Test.YtfapegflnipofaaGreatDoorPAlterConfigsRequest
import Derived.Test.YtfapegflnipofaaGreatDoorCAlterConfigsRequest
import Derived.Test.YtfapegflnipofaaGreatDoorKqP06
set_option linter.unusedVariables false
set_option linter.unusedSimpArgs false
namespace Go.Proofs.YtfapegflnipofaaGreatDoor.AlterConfigsRequest
open Go.Kq
def tResourceConfig : List Ty := [.str, .pstr, .tags]
def gResourceConfig : Rd := (rdCons (rdOne fun _ fl st => if fl then gCStr st else gStr st) (rdCons (rdOne fun _ fl st => if fl then gCNStr st else gNStr st) (rdCons rdTagsF rdSt0)))
theorem dResourceConfig : DefM Tryz.prog 148 (tResourceConfig) id := def_skip Tryz.func148 (by kernel_rfl) (by kernel_rfl) (by kernel_rfl)
def tResource : List Ty := [.int .i8, .str, .arr (.st tResourceConfig), .tags]
def gResource : Rd := (rdCons (rdOne fun _ _ => gI8) (rdCons (rdOne fun _ fl st => if fl then gCStr st else gStr st) (rdCons (rdArr (fun _ fl st => if fl then gCALen st else gALen st) gResourceConfig) (rdCons rdTagsF rdSt0))))
theorem dResource : DefM Tryz.prog 147 (tResource) id := def_skip Tryz.func147 (by kernel_rfl) (by kernel_rfl) (by kernel_rfl)
def tR : List Ty := [.arr (.st tResource), .bool, .tags]
def gR : Rd := (rdCons (rdArr (fun _ fl st => if fl then gCALen st else gALen st) gResource) (rdCons (rdOne fun _ _ => gBool) (rdCons rdTagsF rdSt0)))
theorem dR : DefM Tryz.prog 104 (.int .i16 :: tR) id := def_skip Tryz.func104 (by kernel_rfl) (by kernel_rfl) (by kernel_rfl)
def fl : Int → Bool := fun v => decide (v ≥ 2)
set_option maxRecDepth 20000 in
theorem rf : ReadM Tryz.prog 1 106 tR [.nil, .n 0, .nil] fl gR := by
  refine root Tryz.func106 (by kernel_rfl) rfl rfl rfl ?_ dR (fun _ => rfl) readerT (by kernel_rfl) (by kernel_rfl) (isL_cons (isL_cons (isL_cons isL_nil))) (by decide)
  refine bdy_fl ?_ (by decide)
  refine Run.cons (m := 11) (o' := 2) ?_ ?_ rfl (by decide) (by decide) (isL_cons (isL_cons isL_nil))
  · skip
    refine fld_arr (m' := 15) (e0 := 135) (bs := 56) okM completeM (asg_flex (u := 9) (asg_call mCompactArrayLen (by decide)) (asg_call mArrayLen (by decide)) rfl (by decide)) ?_ (by kernel_rfl) (by decide) (by kernel_rfl) (by kernel_rfl) (by kernel_rfl) (zeroB_is (z := [.int .i8 0, .string ⟨#[]⟩, .slice none 0 0, .map none]) (by kernel_rfl)) rfl rfl (by decide)
    refine elt_st (m' := 17) (et := 135) (z0 := [.n 0, .s [], .nil, .nil]) (bs := 56) ?_ dResource ?_ (by kernel_rfl) (by decide)
    · skip
      refine Fld.cons (m := 17) (m' := 20) (o' := 1) ?_ ?_ rfl (by decide) (by decide) (by decide)
      · skip
        exact (fld_var (fld_alias (asg_copy (asg_call mInt8 (by decide)) (by decide)) (by kernel_rfl) (by kernel_rfl) rfl (by decide)) (by decide))
      refine Fld.cons (m := 20) (m' := 21) (o' := 2) ?_ ?_ rfl (by decide) (by decide) (by decide)
      · skip
        exact (fld_var (fld_asg (asg_uns (asg_flex (u := 9) (asg_call mUnsafeCompactString (by decide)) (asg_call mUnsafeString (by decide)) rfl (by decide)) (asg_flex (u := 9) (asg_call mCompactString (by decide)) (asg_call mString (by decide)) rfl (by decide)) (by decide)) (by kernel_rfl) (by kernel_rfl) rfl (by decide)) (by decide))
      refine Fld.cons (m := 21) (m' := 151) (o' := 3) ?_ ?_ rfl (by decide) (by decide) (by decide)
      · skip
        refine fld_arr (m' := 25) (e0 := 138) (bs := 32) okM completeM (asg_flex (u := 9) (asg_call mCompactArrayLen (by decide)) (asg_call mArrayLen (by decide)) rfl (by decide)) ?_ (by kernel_rfl) (by decide) (by kernel_rfl) (by kernel_rfl) (by kernel_rfl) (zeroB_is (z := [.string ⟨#[]⟩, .pointer none, .map none]) (by kernel_rfl)) rfl rfl (by decide)
        refine elt_st (m' := 27) (et := 138) (z0 := [.s [], .nil, .nil]) (bs := 32) ?_ dResourceConfig ?_ (by kernel_rfl) (by decide)
        · skip
          refine Fld.cons (m := 27) (m' := 28) (o' := 1) ?_ ?_ rfl (by decide) (by decide) (by decide)
          · skip
            exact (fld_var (fld_asg (asg_uns (asg_flex (u := 9) (asg_call mUnsafeCompactString (by decide)) (asg_call mUnsafeString (by decide)) rfl (by decide)) (asg_flex (u := 9) (asg_call mCompactString (by decide)) (asg_call mString (by decide)) rfl (by decide)) (by decide)) (by kernel_rfl) (by kernel_rfl) rfl (by decide)) (by decide))
          refine Fld.cons (m := 28) (m' := 141) (o' := 2) ?_ ?_ rfl (by decide) (by decide) (by decide)
          · skip
            exact (fld_var (fld_asg (asg_flex (u := 9) (asg_uns (asg_call mUnsafeCompactNullableString (by decide)) (asg_call mCompactNullableString (by decide)) (by decide)) (asg_uns (asg_call mUnsafeNullableString (by decide)) (asg_call mNullableString (by decide)) (by decide)) rfl (by decide)) (by kernel_rfl) (by kernel_rfl) rfl (by decide)) (by decide))
          refine Fld.one ?_
          exact (fld_tags (tf := 9) mTags (flatB_is (by kernel_rfl)) (by kernel_rfl) rfl (by decide))
        · exact fun w => reps_zero tResourceConfig
      refine Fld.one ?_
      exact (fld_tags (tf := 9) mTags (flatB_is (by kernel_rfl)) (by kernel_rfl) rfl (by decide))
    · exact fun w => reps_zero tResource
  refine Run.cons (m := 29) (o' := 3) ?_ ?_ rfl (by decide) (by decide) (isL_cons isL_nil)
  · skip
    exact (fld_asg (asg_call mBool (by decide)) (by kernel_rfl) (by kernel_rfl) rfl (by decide))
  refine Run.cons (m := 166) (o' := 4) ?_ ?_ rfl (by decide) (by decide) isL_nil
  · skip
    exact (fld_tags (tf := 9) mTags (flatB_is (by kernel_rfl)) (by kernel_rfl) rfl (by decide))
  exact run_end completeM (by decide)
theorem setM : SetM Tryz.prog 60 := set_m Tryz.func60 (by kernel_rfl) rfl rfl rfl (by kernel_rfl) (by kernel_rfl)
theorem newM : NewM Tryz.prog 57 (.int .i16 :: tR) [.n 0, .nil, .n 0, .nil] := new_m (d := id) Tryz.func57 (by kernel_rfl) rfl rfl rfl (zeroB_is (by kernel_rfl)) dR (by decide)
theorem maxM : MaxM Tryz.prog 25 2 := maxd_m (tys := .int .i16 :: tR) (ds := [.n 0, .nil, .n 0, .nil]) (mx := ((2 : Nat) : Int)) (fmx := 58) (fnw := 57) (f := 25) (P := Tryz.prog) Tryz.func25 (by kernel_rfl) rfl rfl rfl newM (maxv_m Tryz.func58 (by kernel_rfl) rfl rfl rfl) (by decide) (by kernel_rfl) (by kernel_rfl)
theorem rd1 : ReadD Tryz.prog 1 61 tR [.nil, .n 0, .nil] fl gR := read_d rf Tryz.func61 (by kernel_rfl) rfl rfl rfl
theorem door : BehM Tryz.prog 1 27 (behRes gR fl fun ver => apSt ((fun _ => []) :: gaAlterConfigsRequest ver)) := behind_m (te := 5) Tryz.func27 (by kernel_rfl) rfl rfl rfl (by kernel_rfl) octT (by kernel_rfl) (by kernel_rfl) (by kernel_rfl) newM setM rd1 app
theorem plResourceConfig (ver : Int) (hv : 0 ≤ ver) (t : T) (hk : KeysOk t) : InvL gResourceConfig ver (decide (ver ≥ 2)) (gaAlterConfigsRequestResourceConfig ver) (partW fssAlterConfigsRequestResourceConfig ver (decide (ver ≥ 2)) t) := by
  refine inv_part (by kernel_rfl) ?_
  refine invb_cons (inv_has (has_all hv (by decide) (by decide)) (invf_str (by decide))) ?_
  refine invb_cons (inv_has (has_all hv (by decide) (by decide)) invf_pstr) ?_
  exact invb_nil (inv_tagend hk)
theorem poResourceConfig (ver : Int) (hv : 0 ≤ ver) (t : T) : 1 ≤ (partW fssAlterConfigsRequestResourceConfig ver (decide (ver ≥ 2)) t).length := part_pos (by kernel_rfl) (body_head (has_all hv (by decide) (by decide)) (fieldW_pos (by decide)))
theorem plResource (ver : Int) (hv : 0 ≤ ver) (t : T) (hk : KeysOk t) : InvL gResource ver (decide (ver ≥ 2)) (gaAlterConfigsRequestResource ver) (partW fssAlterConfigsRequestResource ver (decide (ver ≥ 2)) t) := by
  refine inv_part (by kernel_rfl) ?_
  refine invb_cons (inv_has (has_all hv (by decide) (by decide)) invf_i8) ?_
  refine invb_cons (inv_has (has_all hv (by decide) (by decide)) (invf_str (by decide))) ?_
  refine invb_cons (inv_has (has_all hv (by decide) (by decide)) (invf_arr (by decide) (fun z hz => inv_el (plResourceConfig ver hv z ((KeysOk.at hk.l 2).l z hz))) (fun z => value_pos10 (poResourceConfig ver hv z)))) ?_
  exact invb_nil (inv_tagend hk)
theorem poResource (ver : Int) (hv : 0 ≤ ver) (t : T) : 1 ≤ (partW fssAlterConfigsRequestResource ver (decide (ver ≥ 2)) t).length := part_pos (by kernel_rfl) (body_head (has_all hv (by decide) (by decide)) (fieldW_pos (by decide)))
theorem plR (ver : Int) (hv : 0 ≤ ver) (t : T) (hk : KeysOk t) : InvL gR ver (decide (ver ≥ 2)) (gaAlterConfigsRequest ver) (partW fsAlterConfigsRequest ver (decide (ver ≥ 2)) t) := by
  refine inv_part (by kernel_rfl) ?_
  refine invb_cons (inv_has (has_all hv (by decide) (by decide)) (invf_arr (by decide) (fun z hz => inv_el (plResource ver hv z ((KeysOk.at hk.l 0).l z hz))) (fun z => value_pos10 (poResource ver hv z)))) ?_
  refine invb_cons (inv_has (has_all hv (by decide) (by decide)) invf_bool) ?_
  exact invb_nil (inv_tagend hk)
def small (t : T) : Prop := KeysOk t ∧ ∀ ver flex, (partW fsAlterConfigsRequest ver flex t).length ≤ 2147483648
theorem law : LawB Tryz.prog 1 7 small := by
  refine lawb_m (te := 5) (mx := 2) (fs := fsAlterConfigsRequest) (enc := partW fsAlterConfigsRequest) Tryz.func7 (by kernel_rfl) rfl rfl rfl (by kernel_rfl) octT (by kernel_rfl) (flatB_is (by kernel_rfl)) (flatB_is (by kernel_rfl)) wFit maxM (by decide) ifsAlterConfigsRequest verM (wWrite fsAlterConfigsRequest (by decide)) door sameM ?_
  rintro ver h0 h1 t ⟨hk, hs⟩
  refine ⟨hs _ _, ?_⟩
  rw [show (decide ((2 : Int) ≥ 0) && decide (ver ≥ 2)) = fl ver from by simp [fl]]
  exact beh_plain (plR ver h0 t hk)
end Go.Proofs.YtfapegflnipofaaGreatDoor.AlterConfigsRequest
