/- The parts of the law on DescribeClientQuotasRequest. Printed by gen_msg.py. -/
import Derived.Test.YthmejlgblhjcdaaGreatDoorPDescribeClientQuotasRequest
import Derived.Test.YthmejlgblhjcdaaGreatDoorCDescribeClientQuotasRequest
import Derived.Test.YthmejlgblhjcdaaGreatDoorKqP06
set_option linter.unusedVariables false
set_option linter.unusedSimpArgs false
namespace Go.Proofs.YthmejlgblhjcdaaGreatDoor.DescribeClientQuotasRequest
open Go.Kq
def tComponent : List Ty := [.str, .int .i8, .pstr, .tags]
def gComponent : Rd := (rdCons (rdOne fun _ fl st => if fl then gCStr st else gStr st) (rdCons (rdOne fun _ _ => gI8) (rdCons (rdOne fun _ fl st => if fl then gCNStr st else gNStr st) (rdCons rdTagsF rdSt0))))
theorem dComponent : DefM Tryz.prog 125 (tComponent) id := def_skip Tryz.func125 (by kernel_rfl) (by kernel_rfl) (by kernel_rfl)
def tR : List Ty := [.arr (.st tComponent), .bool, .tags]
def gR : Rd := (rdCons (rdArr (fun _ fl st => if fl then gCALen st else gALen st) gComponent) (rdCons (rdOne fun _ _ => gBool) (rdCons rdTagsF rdSt0)))
theorem dR : DefM Tryz.prog 72 (.int .i16 :: tR) id := def_skip Tryz.func72 (by kernel_rfl) (by kernel_rfl) (by kernel_rfl)
def fl : Int → Bool := fun v => decide (v ≥ 1)
set_option maxRecDepth 20000 in
theorem rf : ReadM Tryz.prog 0 76 tR [.nil, .n 0, .nil] fl gR := by
  refine root Tryz.func76 (by kernel_rfl) rfl rfl rfl ?_ dR (fun _ => rfl) readerT (by kernel_rfl) (by kernel_rfl) (isL_cons (isL_cons (isL_cons isL_nil))) (by decide)
  refine bdy_fl ?_ (by decide)
  refine Run.cons (m := 11) (o' := 2) ?_ ?_ rfl (by decide) (by decide) (isL_cons (isL_cons isL_nil))
  · skip
    refine fld_arr (m' := 15) (e0 := 100) (bs := 40) okM completeM (asg_flex (u := 9) (asg_call mCompactArrayLen (by decide)) (asg_call mArrayLen (by decide)) rfl (by decide)) ?_ (by kernel_rfl) (by decide) (by kernel_rfl) (by kernel_rfl) (by kernel_rfl) (zeroB_is (z := [.string ⟨#[]⟩, .int .i8 0, .pointer none, .map none]) (by kernel_rfl)) rfl rfl (by decide)
    refine elt_st (m' := 17) (et := 100) (z0 := [.s [], .n 0, .nil, .nil]) (bs := 40) ?_ dComponent ?_ (by kernel_rfl) (by decide)
    · skip
      refine Fld.cons (m := 17) (m' := 18) (o' := 1) ?_ ?_ rfl (by decide) (by decide) (by decide)
      · skip
        exact (fld_var (fld_asg (asg_uns (asg_flex (u := 9) (asg_call mUnsafeCompactString (by decide)) (asg_call mUnsafeString (by decide)) rfl (by decide)) (asg_flex (u := 9) (asg_call mCompactString (by decide)) (asg_call mString (by decide)) rfl (by decide)) (by decide)) (by kernel_rfl) (by kernel_rfl) rfl (by decide)) (by decide))
      refine Fld.cons (m := 18) (m' := 21) (o' := 2) ?_ ?_ rfl (by decide) (by decide) (by decide)
      · skip
        exact (fld_var (fld_alias (asg_copy (asg_call mInt8 (by decide)) (by decide)) (by kernel_rfl) (by kernel_rfl) rfl (by decide)) (by decide))
      refine Fld.cons (m := 21) (m' := 94) (o' := 3) ?_ ?_ rfl (by decide) (by decide) (by decide)
      · skip
        exact (fld_var (fld_asg (asg_flex (u := 9) (asg_uns (asg_call mUnsafeCompactNullableString (by decide)) (asg_call mCompactNullableString (by decide)) (by decide)) (asg_uns (asg_call mUnsafeNullableString (by decide)) (asg_call mNullableString (by decide)) (by decide)) rfl (by decide)) (by kernel_rfl) (by kernel_rfl) rfl (by decide)) (by decide))
      refine Fld.one ?_
      exact (fld_tags (tf := 9) mTags (flatB_is (by kernel_rfl)) (by kernel_rfl) rfl (by decide))
    · exact fun w => reps_zero tComponent
  refine Run.cons (m := 22) (o' := 3) ?_ ?_ rfl (by decide) (by decide) (isL_cons isL_nil)
  · skip
    exact (fld_asg (asg_call mBool (by decide)) (by kernel_rfl) (by kernel_rfl) rfl (by decide))
  refine Run.cons (m := 109) (o' := 4) ?_ ?_ rfl (by decide) (by decide) isL_nil
  · skip
    exact (fld_tags (tf := 9) mTags (flatB_is (by kernel_rfl)) (by kernel_rfl) rfl (by decide))
  exact run_end completeM (by decide)
theorem setM : SetM Tryz.prog 35 := set_m Tryz.func35 (by kernel_rfl) rfl rfl rfl (by kernel_rfl) (by kernel_rfl)
theorem newM : NewM Tryz.prog 31 (.int .i16 :: tR) [.n 0, .nil, .n 0, .nil] := new_m (d := id) Tryz.func31 (by kernel_rfl) rfl rfl rfl (zeroB_is (by kernel_rfl)) dR (by decide)
theorem maxM : MaxM Tryz.prog 9 1 := maxd_m (tys := .int .i16 :: tR) (ds := [.n 0, .nil, .n 0, .nil]) (mx := ((1 : Nat) : Int)) (fmx := 32) (fnw := 31) (f := 9) (P := Tryz.prog) Tryz.func9 (by kernel_rfl) rfl rfl rfl newM (maxv_m Tryz.func32 (by kernel_rfl) rfl rfl rfl) (by decide) (by kernel_rfl) (by kernel_rfl)
theorem rd1 : ReadD Tryz.prog 0 36 tR [.nil, .n 0, .nil] fl gR := read_d rf Tryz.func36 (by kernel_rfl) rfl rfl rfl
theorem door : BehM Tryz.prog 0 13 (behRes gR fl fun ver => apSt ((fun _ => []) :: gaDescribeClientQuotasRequest ver)) := behind_m (te := 5) Tryz.func13 (by kernel_rfl) rfl rfl rfl (by kernel_rfl) octT (by kernel_rfl) (by kernel_rfl) (by kernel_rfl) newM setM rd1 app
theorem plComponent (ver : Int) (hv : 0 ≤ ver) (t : T) (hk : KeysOk t) : InvL gComponent ver (decide (ver ≥ 1)) (gaDescribeClientQuotasRequestComponent ver) (partW fssDescribeClientQuotasRequestComponent ver (decide (ver ≥ 1)) t) := by
  refine inv_part (by kernel_rfl) ?_
  refine invb_cons (inv_has (has_all hv (by decide) (by decide)) (invf_str (by decide))) ?_
  refine invb_cons (inv_has (has_all hv (by decide) (by decide)) invf_i8) ?_
  refine invb_cons (inv_has (has_all hv (by decide) (by decide)) invf_pstr) ?_
  exact invb_nil (inv_tagend hk)
theorem poComponent (ver : Int) (hv : 0 ≤ ver) (t : T) : 1 ≤ (partW fssDescribeClientQuotasRequestComponent ver (decide (ver ≥ 1)) t).length := part_pos (by kernel_rfl) (body_head (has_all hv (by decide) (by decide)) (fieldW_pos (by decide)))
theorem plR (ver : Int) (hv : 0 ≤ ver) (t : T) (hk : KeysOk t) : InvL gR ver (decide (ver ≥ 1)) (gaDescribeClientQuotasRequest ver) (partW fsDescribeClientQuotasRequest ver (decide (ver ≥ 1)) t) := by
  refine inv_part (by kernel_rfl) ?_
  refine invb_cons (inv_has (has_all hv (by decide) (by decide)) (invf_arr (by decide) (fun z hz => inv_el (plComponent ver hv z ((KeysOk.at hk.l 0).l z hz))) (fun z => value_pos10 (poComponent ver hv z)))) ?_
  refine invb_cons (inv_has (has_all hv (by decide) (by decide)) invf_bool) ?_
  exact invb_nil (inv_tagend hk)
def small (t : T) : Prop := KeysOk t ∧ ∀ ver flex, (partW fsDescribeClientQuotasRequest ver flex t).length ≤ 2147483648
theorem law : LawB Tryz.prog 0 3 small := by
  refine lawb_m (te := 5) (mx := 1) (fs := fsDescribeClientQuotasRequest) (enc := partW fsDescribeClientQuotasRequest) Tryz.func3 (by kernel_rfl) rfl rfl rfl (by kernel_rfl) octT (by kernel_rfl) (flatB_is (by kernel_rfl)) (flatB_is (by kernel_rfl)) wFit maxM (by decide) ifsDescribeClientQuotasRequest verM (wWrite fsDescribeClientQuotasRequest (by decide)) door sameM ?_
  rintro ver h0 h1 t ⟨hk, hs⟩
  refine ⟨hs _ _, ?_⟩
  rw [show (decide ((1 : Int) ≥ 0) && decide (ver ≥ 1)) = fl ver from by simp [fl]]
  exact beh_plain (plR ver h0 t hk)
end Go.Proofs.YthmejlgblhjcdaaGreatDoor.DescribeClientQuotasRequest
