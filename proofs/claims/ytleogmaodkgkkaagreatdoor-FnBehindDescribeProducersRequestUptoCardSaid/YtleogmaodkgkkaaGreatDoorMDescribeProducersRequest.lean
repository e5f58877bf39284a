/- The parts of the law on DescribeProducersRequest. Printed by gen_msg.py. -/
import Derived.Test.YtleogmaodkgkkaaGreatDoorPDescribeProducersRequest
import Derived.Test.YtleogmaodkgkkaaGreatDoorCDescribeProducersRequest
import Derived.Test.YtleogmaodkgkkaaGreatDoorKqP06
set_option linter.unusedVariables false
set_option linter.unusedSimpArgs false
namespace Go.Proofs.YtleogmaodkgkkaaGreatDoor.DescribeProducersRequest
open Go.Kq
def tTopic : List Ty := [.str, .arr (.int .i32), .tags]
def gTopic : Rd := (rdCons (rdOne fun _ fl st => if fl then gCStr st else gStr st) (rdCons (rdArr (fun _ fl st => if fl then gCALen st else gALen st) (rdOne fun _ _ => gNum .i32 4)) (rdCons rdTagsF rdSt0)))
theorem dTopic : DefM Tryz.prog 116 (tTopic) id := def_skip Tryz.func116 (by kernel_rfl) (by kernel_rfl) (by kernel_rfl)
def tR : List Ty := [.arr (.st tTopic), .tags]
def gR : Rd := (rdCons (rdArr (fun _ fl st => if fl then gCALen st else gALen st) gTopic) (rdCons rdTagsF rdSt0))
theorem dR : DefM Tryz.prog 69 (.int .i16 :: tR) id := def_skip Tryz.func69 (by kernel_rfl) (by kernel_rfl) (by kernel_rfl)
def fl : Int → Bool := fun v => decide (v ≥ 0)
set_option maxRecDepth 20000 in
theorem rf : ReadM Tryz.prog 0 78 tR [.nil, .nil] fl gR := by
  refine root Tryz.func78 (by kernel_rfl) rfl rfl rfl ?_ dR (fun _ => rfl) readerT (by kernel_rfl) (by kernel_rfl) (isL_cons (isL_cons isL_nil)) (by decide)
  refine bdy_fl ?_ (by decide)
  refine Run.cons (m := 11) (o' := 2) ?_ ?_ rfl (by decide) (by decide) (isL_cons isL_nil)
  · skip
    refine fld_arr (m' := 15) (e0 := 86) (bs := 48) okM completeM (asg_flex (u := 9) (asg_call mCompactArrayLen (by decide)) (asg_call mArrayLen (by decide)) rfl (by decide)) ?_ (by kernel_rfl) (by decide) (by kernel_rfl) (by kernel_rfl) (by kernel_rfl) (zeroB_is (z := [.string ⟨#[]⟩, .slice none 0 0, .map none]) (by kernel_rfl)) rfl rfl (by decide)
    refine elt_st (m' := 17) (et := 86) (z0 := [.s [], .nil, .nil]) (bs := 48) ?_ dTopic ?_ (by kernel_rfl) (by decide)
    · skip
      refine Fld.cons (m := 17) (m' := 18) (o' := 1) ?_ ?_ rfl (by decide) (by decide) (by decide)
      · skip
        exact (fld_var (fld_asg (asg_uns (asg_flex (u := 9) (asg_call mUnsafeCompactString (by decide)) (asg_call mUnsafeString (by decide)) rfl (by decide)) (asg_flex (u := 9) (asg_call mCompactString (by decide)) (asg_call mString (by decide)) rfl (by decide)) (by decide)) (by kernel_rfl) (by kernel_rfl) rfl (by decide)) (by decide))
      refine Fld.cons (m := 18) (m' := 109) (o' := 2) ?_ ?_ rfl (by decide) (by decide) (by decide)
      · skip
        refine fld_arr (m' := 22) (e0 := 21) (bs := 4) okM completeM (asg_flex (u := 9) (asg_call mCompactArrayLen (by decide)) (asg_call mArrayLen (by decide)) rfl (by decide)) ?_ (by kernel_rfl) (by decide) (by kernel_rfl) (by kernel_rfl) (by kernel_rfl) (zeroB_is (z := [.int .i32 0]) (by kernel_rfl)) rfl rfl (by decide)
        exact elt_one (m' := 22) (et := 21) (bs := 4) (asg_call mInt32 (by decide)) (by kernel_rfl) (by kernel_rfl) rfl (by decide)
      refine Fld.one ?_
      exact (fld_tags (tf := 9) mTags (flatB_is (by kernel_rfl)) (by kernel_rfl) rfl (by decide))
    · exact fun w => reps_zero tTopic
  refine Run.cons (m := 119) (o' := 3) ?_ ?_ rfl (by decide) (by decide) isL_nil
  · skip
    exact (fld_tags (tf := 9) mTags (flatB_is (by kernel_rfl)) (by kernel_rfl) rfl (by decide))
  exact run_end completeM (by decide)
theorem setM : SetM Tryz.prog 36 := set_m Tryz.func36 (by kernel_rfl) rfl rfl rfl (by kernel_rfl) (by kernel_rfl)
theorem newM : NewM Tryz.prog 32 (.int .i16 :: tR) [.n 0, .nil, .nil] := new_m (d := id) Tryz.func32 (by kernel_rfl) rfl rfl rfl (zeroB_is (by kernel_rfl)) dR (by decide)
theorem maxM : MaxM Tryz.prog 10 0 := maxd_m (tys := .int .i16 :: tR) (ds := [.n 0, .nil, .nil]) (mx := ((0 : Nat) : Int)) (fmx := 33) (fnw := 32) (f := 10) (P := Tryz.prog) Tryz.func10 (by kernel_rfl) rfl rfl rfl newM (maxv_m Tryz.func33 (by kernel_rfl) rfl rfl rfl) (by decide) (by kernel_rfl) (by kernel_rfl)
theorem rd1 : ReadD Tryz.prog 0 37 tR [.nil, .nil] fl gR := read_d rf Tryz.func37 (by kernel_rfl) rfl rfl rfl
theorem door : BehM Tryz.prog 0 14 (behRes gR fl fun ver => apSt ((fun _ => []) :: gaDescribeProducersRequest ver)) := behind_m (te := 5) Tryz.func14 (by kernel_rfl) rfl rfl rfl (by kernel_rfl) octT (by kernel_rfl) (by kernel_rfl) (by kernel_rfl) newM setM rd1 app
theorem plTopic (ver : Int) (hv : 0 ≤ ver) (t : T) (hk : KeysOk t) : InvL gTopic ver (decide (ver ≥ 0)) (gaDescribeProducersRequestTopic ver) (partW fssDescribeProducersRequestTopic ver (decide (ver ≥ 0)) t) := by
  refine inv_part (by kernel_rfl) ?_
  refine invb_cons (inv_has (has_all hv (by decide) (by decide)) (invf_str (by decide))) ?_
  refine invb_cons (inv_has (has_all hv (by decide) (by decide)) (invf_arr (by decide) (fun z hz => inv_el_i32) (fun z => value_pos (by decide)))) ?_
  exact invb_nil (inv_tagend hk)
theorem poTopic (ver : Int) (hv : 0 ≤ ver) (t : T) : 1 ≤ (partW fssDescribeProducersRequestTopic ver (decide (ver ≥ 0)) t).length := part_pos (by kernel_rfl) (body_head (has_all hv (by decide) (by decide)) (fieldW_pos (by decide)))
theorem plR (ver : Int) (hv : 0 ≤ ver) (t : T) (hk : KeysOk t) : InvL gR ver (decide (ver ≥ 0)) (gaDescribeProducersRequest ver) (partW fsDescribeProducersRequest ver (decide (ver ≥ 0)) t) := by
  refine inv_part (by kernel_rfl) ?_
  refine invb_cons (inv_has (has_all hv (by decide) (by decide)) (invf_arr (by decide) (fun z hz => inv_el (plTopic ver hv z ((KeysOk.at hk.l 0).l z hz))) (fun z => value_pos10 (poTopic ver hv z)))) ?_
  exact invb_nil (inv_tagend hk)
def small (t : T) : Prop := KeysOk t ∧ ∀ ver flex, (partW fsDescribeProducersRequest ver flex t).length ≤ 2147483648
theorem law : LawB Tryz.prog 0 3 small := by
  refine lawb_m (te := 5) (mx := 0) (fs := fsDescribeProducersRequest) (enc := partW fsDescribeProducersRequest) Tryz.func3 (by kernel_rfl) rfl rfl rfl (by kernel_rfl) octT (by kernel_rfl) (flatB_is (by kernel_rfl)) (flatB_is (by kernel_rfl)) wFit maxM (by decide) ifsDescribeProducersRequest verM (wWrite fsDescribeProducersRequest (by decide)) door sameM ?_
  rintro ver h0 h1 t ⟨hk, hs⟩
  refine ⟨hs _ _, ?_⟩
  rw [show (decide ((0 : Int) ≥ 0) && decide (ver ≥ 0)) = fl ver from by simp [fl]]
  exact beh_plain (plR ver h0 t hk)
end Go.Proofs.YtleogmaodkgkkaaGreatDoor.DescribeProducersRequest
