/- The parts of the law on UpdateFeaturesRequest. Printed by gen_msg.py. -/
import Derived.Test.YtfapegflnipofaaGreatDoorPUpdateFeaturesRequest
import Derived.Test.YtfapegflnipofaaGreatDoorCUpdateFeaturesRequest
import Derived.Test.YtfapegflnipofaaGreatDoorKqP06
set_option linter.unusedVariables false
set_option linter.unusedSimpArgs false
namespace Go.Proofs.YtfapegflnipofaaGreatDoor.UpdateFeaturesRequest
open Go.Kq
def tFeatureUpdate : List Ty := [.str, .int .i16, .bool, .int .i8, .tags]
def gFeatureUpdate : Rd := (rdCons (rdOne fun _ fl st => if fl then gCStr st else gStr st) (rdCons (rdOne fun _ _ => gNum .i16 2) (rdCons (rdIf (fun v => decide (v ≥ 0) && decide (v ≤ 0)) (.n 0) (rdOne fun _ _ => gBool)) (rdCons (rdIf (fun v => decide (v ≥ 1)) (.n 0) (rdOne fun _ _ => gI8)) (rdCons rdTagsF rdSt0)))))
theorem dFeatureUpdate : DefM Tryz.prog 120 (tFeatureUpdate) id := def_skip Tryz.func120 (by kernel_rfl) (by kernel_rfl) (by kernel_rfl)
def tR : List Ty := [.int .i32, .arr (.st tFeatureUpdate), .bool, .tags]
def gR : Rd := (rdCons (rdOne fun _ _ => gNum .i32 4) (rdCons (rdArr (fun _ fl st => if fl then gCALen st else gALen st) gFeatureUpdate) (rdCons (rdIf (fun v => decide (v ≥ 1)) (.n 0) (rdOne fun _ _ => gBool)) (rdCons rdTagsF rdSt0))))
theorem dR : DefM Tryz.prog 70 (.int .i16 :: tR) (fun xs => (xs.set 1 (.n (60000)))) := def_sets (N := 5) Tryz.func70 (by kernel_rfl) rfl rfl (by decide) rfl (DRun.one (i := 1) (ty := .int .i32) (x := .n (60000)) (by kernel_rfl) (by kernel_rfl) rfl rfl rfl rfl (fun w => ⟨_, rfl, rfl, by decide, by decide⟩) (by decide))
def fl : Int → Bool := fun v => decide (v ≥ 0)
set_option maxRecDepth 20000 in
theorem rf : ReadM Tryz.prog 1 79 tR [.n (60000), .nil, .n 0, .nil] fl gR := by
  refine root Tryz.func79 (by kernel_rfl) rfl rfl rfl ?_ dR (fun _ => rfl) readerT (by kernel_rfl) (by kernel_rfl) (isL_cons (isL_cons (isL_cons (isL_cons isL_nil)))) (by decide)
  refine bdy_fl ?_ (by decide)
  refine Run.cons (m := 11) (o' := 2) ?_ ?_ rfl (by decide) (by decide) (isL_cons (isL_cons (isL_cons isL_nil)))
  · skip
    exact (fld_asg (asg_call mInt32 (by decide)) (by kernel_rfl) (by kernel_rfl) rfl (by decide))
  refine Run.cons (m := 12) (o' := 3) ?_ ?_ rfl (by decide) (by decide) (isL_cons (isL_cons isL_nil))
  · skip
    refine fld_arr (m' := 16) (e0 := 87) (bs := 32) okM completeM (asg_flex (u := 9) (asg_call mCompactArrayLen (by decide)) (asg_call mArrayLen (by decide)) rfl (by decide)) ?_ (by kernel_rfl) (by decide) (by kernel_rfl) (by kernel_rfl) (by kernel_rfl) (zeroB_is (z := [.string ⟨#[]⟩, .int .i16 0, .bool false, .int .i8 0, .map none]) (by kernel_rfl)) rfl rfl (by decide)
    refine elt_st (m' := 18) (et := 87) (z0 := [.s [], .n 0, .n 0, .n 0, .nil]) (bs := 32) ?_ dFeatureUpdate ?_ (by kernel_rfl) (by decide)
    · skip
      refine Fld.cons (m := 18) (m' := 19) (o' := 1) ?_ ?_ rfl (by decide) (by decide) (by decide)
      · skip
        exact (fld_var (fld_asg (asg_uns (asg_flex (u := 9) (asg_call mUnsafeCompactString (by decide)) (asg_call mUnsafeString (by decide)) rfl (by decide)) (asg_flex (u := 9) (asg_call mCompactString (by decide)) (asg_call mString (by decide)) rfl (by decide)) (by decide)) (by kernel_rfl) (by kernel_rfl) rfl (by decide)) (by decide))
      refine Fld.cons (m := 19) (m' := 20) (o' := 2) ?_ ?_ rfl (by decide) (by decide) (by decide)
      · skip
        exact (fld_asg (asg_call mInt16 (by decide)) (by kernel_rfl) (by kernel_rfl) rfl (by decide))
      refine Fld.cons (m := 20) (m' := 21) (o' := 3) ?_ ?_ rfl (by decide) (by decide) (by decide)
      · skip
        exact (fld_if2 (fld_asg (asg_call mBool (by decide)) (by kernel_rfl) (by kernel_rfl) rfl (by decide)) (by decide))
      refine Fld.cons (m := 21) (m' := 104) (o' := 4) ?_ ?_ rfl (by decide) (by decide) (by decide)
      · skip
        exact (fld_if (fld_asg (asg_call mInt8 (by decide)) (by kernel_rfl) (by kernel_rfl) rfl (by decide)) (fun i => rfl) (by decide))
      refine Fld.one ?_
      exact (fld_tags (tf := 9) mTags (flatB_is (by kernel_rfl)) (by kernel_rfl) rfl (by decide))
    · exact fun w => reps_zero tFeatureUpdate
  refine Run.cons (m := 22) (o' := 4) ?_ ?_ rfl (by decide) (by decide) (isL_cons isL_nil)
  · skip
    exact (fld_if (fld_asg (asg_call mBool (by decide)) (by kernel_rfl) (by kernel_rfl) rfl (by decide)) (fun i => rfl) (by decide))
  refine Run.cons (m := 121) (o' := 5) ?_ ?_ rfl (by decide) (by decide) isL_nil
  · skip
    exact (fld_tags (tf := 9) mTags (flatB_is (by kernel_rfl)) (by kernel_rfl) rfl (by decide))
  exact run_end completeM (by decide)
theorem setM : SetM Tryz.prog 36 := set_m Tryz.func36 (by kernel_rfl) rfl rfl rfl (by kernel_rfl) (by kernel_rfl)
theorem newM : NewM Tryz.prog 32 (.int .i16 :: tR) [.n 0, .n (60000), .nil, .n 0, .nil] := new_m (d := (fun xs => (xs.set 1 (.n (60000))))) Tryz.func32 (by kernel_rfl) rfl rfl rfl (zeroB_is (by kernel_rfl)) dR (by decide)
theorem maxM : MaxM Tryz.prog 10 2 := maxd_m (tys := .int .i16 :: tR) (ds := [.n 0, .n (60000), .nil, .n 0, .nil]) (mx := ((2 : Nat) : Int)) (fmx := 33) (fnw := 32) (f := 10) (P := Tryz.prog) Tryz.func10 (by kernel_rfl) rfl rfl rfl newM (maxv_m Tryz.func33 (by kernel_rfl) rfl rfl rfl) (by decide) (by kernel_rfl) (by kernel_rfl)
theorem rd1 : ReadD Tryz.prog 1 37 tR [.n (60000), .nil, .n 0, .nil] fl gR := read_d rf Tryz.func37 (by kernel_rfl) rfl rfl rfl
theorem door : BehM Tryz.prog 1 14 (behRes gR fl fun ver => apSt ((fun _ => []) :: gaUpdateFeaturesRequest ver)) := behind_m (te := 5) Tryz.func14 (by kernel_rfl) rfl rfl rfl (by kernel_rfl) octT (by kernel_rfl) (by kernel_rfl) (by kernel_rfl) newM setM rd1 app
theorem plFeatureUpdate (ver : Int) (hv : 0 ≤ ver) (t : T) (hk : KeysOk t) : InvL gFeatureUpdate ver (decide (ver ≥ 0)) (gaUpdateFeaturesRequestFeatureUpdate ver) (partW fssUpdateFeaturesRequestFeatureUpdate ver (decide (ver ≥ 0)) t) := by
  refine inv_part (by kernel_rfl) ?_
  refine invb_cons (inv_has (has_all hv (by decide) (by decide)) (invf_str (by decide))) ?_
  refine invb_cons (inv_has (has_all hv (by decide) (by decide)) invf_i16) ?_
  refine invb_cons (inv_gate (p := fun v => decide (v ≥ 0) && decide (v ≤ 0)) (has_rng (by decide)) invf_bool) ?_
  refine invb_cons (inv_gate (p := fun v => decide (v ≥ 1)) (has_ge (by decide)) invf_i8) ?_
  exact invb_nil (inv_tagend hk)
theorem poFeatureUpdate (ver : Int) (hv : 0 ≤ ver) (t : T) : 1 ≤ (partW fssUpdateFeaturesRequestFeatureUpdate ver (decide (ver ≥ 0)) t).length := part_pos (by kernel_rfl) (body_head (has_all hv (by decide) (by decide)) (fieldW_pos (by decide)))
theorem plR (ver : Int) (hv : 0 ≤ ver) (t : T) (hk : KeysOk t) : InvL gR ver (decide (ver ≥ 0)) (gaUpdateFeaturesRequest ver) (partW fsUpdateFeaturesRequest ver (decide (ver ≥ 0)) t) := by
  refine inv_part (by kernel_rfl) ?_
  refine invb_cons (inv_has (has_all hv (by decide) (by decide)) invf_i32) ?_
  refine invb_cons (inv_has (has_all hv (by decide) (by decide)) (invf_arr (by decide) (fun z hz => inv_el (plFeatureUpdate ver hv z ((KeysOk.at hk.l 1).l z hz))) (fun z => value_pos10 (poFeatureUpdate ver hv z)))) ?_
  refine invb_cons (inv_gate (p := fun v => decide (v ≥ 1)) (has_ge (by decide)) invf_bool) ?_
  exact invb_nil (inv_tagend hk)
def small (t : T) : Prop := KeysOk t ∧ ∀ ver flex, (partW fsUpdateFeaturesRequest ver flex t).length ≤ 2147483648
theorem law : LawB Tryz.prog 1 3 small := by
  refine lawb_m (te := 5) (mx := 2) (fs := fsUpdateFeaturesRequest) (enc := partW fsUpdateFeaturesRequest) Tryz.func3 (by kernel_rfl) rfl rfl rfl (by kernel_rfl) octT (by kernel_rfl) (flatB_is (by kernel_rfl)) (flatB_is (by kernel_rfl)) wFit maxM (by decide) ifsUpdateFeaturesRequest verM (wWrite fsUpdateFeaturesRequest (by decide)) door sameM ?_
  rintro ver h0 h1 t ⟨hk, hs⟩
  refine ⟨hs _ _, ?_⟩
  rw [show (decide ((0 : Int) ≥ 0) && decide (ver ≥ 0)) = fl ver from by simp [fl]]
  exact beh_plain (plR ver h0 t hk)
end Go.Proofs.YtfapegflnipofaaGreatDoor.UpdateFeaturesRequest
