/- The parts of the law on ControllerRegistrationRequest. Printed by gen_msg.py. -/
import Derived.Test.YtjalbgfaneemfaaGreatDoorPControllerRegistrationRequest
import Derived.Test.YtjalbgfaneemfaaGreatDoorCControllerRegistrationRequest
import Derived.Test.YtjalbgfaneemfaaGreatDoorKqCoF
import Derived.Test.YtjalbgfaneemfaaGreatDoorKqP06
set_option linter.unusedVariables false
set_option linter.unusedSimpArgs false
namespace Go.Proofs.YtjalbgfaneemfaaGreatDoor.ControllerRegistrationRequest
open Go.Kq
def tListener : List Ty := [.str, .str, .int .u16, .int .i16, .tags]
def gListener : Rd := (rdCons (rdOne fun _ fl st => if fl then gCStr st else gStr st) (rdCons (rdOne fun _ fl st => if fl then gCStr st else gStr st) (rdCons (rdOne fun _ _ => gNum .u16 2) (rdCons (rdOne fun _ _ => gNum .i16 2) (rdCons rdTagsF rdSt0)))))
theorem dListener : DefM Tryz.prog 86 (tListener) id := def_skip Tryz.func86 (by kernel_rfl) (by kernel_rfl) (by kernel_rfl)
def tFeature : List Ty := [.str, .int .i16, .int .i16, .tags]
def gFeature : Rd := (rdCons (rdOne fun _ fl st => if fl then gCStr st else gStr st) (rdCons (rdOne fun _ _ => gNum .i16 2) (rdCons (rdOne fun _ _ => gNum .i16 2) (rdCons rdTagsF rdSt0))))
theorem dFeature : DefM Tryz.prog 94 (tFeature) id := def_skip Tryz.func94 (by kernel_rfl) (by kernel_rfl) (by kernel_rfl)
def tR : List Ty := [.int .i32, .uuid, .bool, .arr (.st tListener), .arr (.st tFeature), .tags]
def gR : Rd := (rdCons (rdOne fun _ _ => gNum .i32 4) (rdCons (rdOne fun _ _ => gUuid) (rdCons (rdOne fun _ _ => gBool) (rdCons (rdArr (fun _ fl st => if fl then gCALen st else gALen st) gListener) (rdCons (rdArr (fun _ fl st => if fl then gCALen st else gALen st) gFeature) (rdCons rdTagsF rdSt0))))))
theorem dR : DefM Tryz.prog 52 (.int .i16 :: tR) id := def_skip Tryz.func52 (by kernel_rfl) (by kernel_rfl) (by kernel_rfl)
def fl : Int → Bool := fun v => decide (v ≥ 0)
set_option maxRecDepth 20000 in
theorem rf : ReadM Tryz.prog 1 61 tR [.n 0, .s uuid0, .n 0, .nil, .nil, .nil] fl gR := by
  refine root Tryz.func61 (by kernel_rfl) rfl rfl rfl ?_ dR (fun _ => rfl) readerT (by kernel_rfl) (by kernel_rfl) (isL_cons (isL_cons (isL_cons (isL_cons (isL_cons (isL_cons isL_nil)))))) (by decide);refine bdy_fl ?_ (by decide);refine Run.cons (m := 11) (o' := 2) ?_ ?_ rfl (by decide) (by decide) (isL_cons (isL_cons (isL_cons (isL_cons (isL_cons isL_nil)))))
  · skip
    exact (fld_asg (asg_call mInt32 (by decide)) (by kernel_rfl) (by kernel_rfl) rfl (by decide))
  refine Run.cons (m := 12) (o' := 18) ?_ ?_ rfl (by decide) (by decide) (isL_cons (isL_cons (isL_cons (isL_cons isL_nil))))
  · skip
    exact (fld_uuid mUuid uuidT (by kernel_rfl) (by decide))
  refine Run.cons (m := 13) (o' := 19) ?_ ?_ rfl (by decide) (by decide) (isL_cons (isL_cons (isL_cons isL_nil)))
  · skip
    exact (fld_asg (asg_call mBool (by decide)) (by kernel_rfl) (by kernel_rfl) rfl (by decide))
  refine Run.cons (m := 14) (o' := 20) ?_ ?_ rfl (by decide) (by decide) (isL_cons (isL_cons isL_nil))
  · skip
    refine fld_arr (m' := 18) (e0 := 119) (bs := 48) okM completeM (asg_flex (u := 9) (asg_call mCompactArrayLen (by decide)) (asg_call mArrayLen (by decide)) rfl (by decide)) ?_ (by kernel_rfl) (by decide) (by kernel_rfl) (by kernel_rfl) (by kernel_rfl) (zeroB_is (z := [.string ⟨#[]⟩, .string ⟨#[]⟩, .int .u16 0, .int .i16 0, .map none]) (by kernel_rfl)) rfl rfl (by decide);refine elt_st (m' := 20) (et := 119) (z0 := [.s [], .s [], .n 0, .n 0, .nil]) (bs := 48) ?_ dListener ?_ (by kernel_rfl) (by decide)
    · skip
      refine Fld.cons (m := 20) (m' := 21) (o' := 1) ?_ ?_ rfl (by decide) (by decide) (by decide)
      · skip
        exact (fld_var (fld_asg (asg_uns (asg_flex (u := 9) (asg_call mUnsafeCompactString (by decide)) (asg_call mUnsafeString (by decide)) rfl (by decide)) (asg_flex (u := 9) (asg_call mCompactString (by decide)) (asg_call mString (by decide)) rfl (by decide)) (by decide)) (by kernel_rfl) (by kernel_rfl) rfl (by decide)) (by decide))
      refine Fld.cons (m := 21) (m' := 22) (o' := 2) ?_ ?_ rfl (by decide) (by decide) (by decide)
      · skip
        exact (fld_var (fld_asg (asg_uns (asg_flex (u := 9) (asg_call mUnsafeCompactString (by decide)) (asg_call mUnsafeString (by decide)) rfl (by decide)) (asg_flex (u := 9) (asg_call mCompactString (by decide)) (asg_call mString (by decide)) rfl (by decide)) (by decide)) (by kernel_rfl) (by kernel_rfl) rfl (by decide)) (by decide))
      refine Fld.cons (m := 22) (m' := 23) (o' := 3) ?_ ?_ rfl (by decide) (by decide) (by decide)
      · skip
        exact (fld_asg (asg_call mUint16 (by decide)) (by kernel_rfl) (by kernel_rfl) rfl (by decide))
      refine Fld.cons (m := 23) (m' := 122) (o' := 4) ?_ ?_ rfl (by decide) (by decide) (by decide)
      · skip
        exact (fld_asg (asg_call mInt16 (by decide)) (by kernel_rfl) (by kernel_rfl) rfl (by decide))
      refine Fld.one ?_;exact (fld_tags (tf := 9) mTags (flatB_is (by kernel_rfl)) (by kernel_rfl) rfl (by decide))
    exact fun w => reps_zero tListener
  refine Run.cons (m := 24) (o' := 21) ?_ ?_ rfl (by decide) (by decide) (isL_cons isL_nil)
  · skip
    refine fld_arr (m' := 28) (e0 := 126) (bs := 32) okM completeM (asg_flex (u := 9) (asg_call mCompactArrayLen (by decide)) (asg_call mArrayLen (by decide)) rfl (by decide)) ?_ (by kernel_rfl) (by decide) (by kernel_rfl) (by kernel_rfl) (by kernel_rfl) (zeroB_is (z := [.string ⟨#[]⟩, .int .i16 0, .int .i16 0, .map none]) (by kernel_rfl)) rfl rfl (by decide);refine elt_st (m' := 30) (et := 126) (z0 := [.s [], .n 0, .n 0, .nil]) (bs := 32) ?_ dFeature ?_ (by kernel_rfl) (by decide)
    · skip
      refine Fld.cons (m := 30) (m' := 31) (o' := 1) ?_ ?_ rfl (by decide) (by decide) (by decide)
      · skip
        exact (fld_var (fld_asg (asg_uns (asg_flex (u := 9) (asg_call mUnsafeCompactString (by decide)) (asg_call mUnsafeString (by decide)) rfl (by decide)) (asg_flex (u := 9) (asg_call mCompactString (by decide)) (asg_call mString (by decide)) rfl (by decide)) (by decide)) (by kernel_rfl) (by kernel_rfl) rfl (by decide)) (by decide))
      refine Fld.cons (m := 31) (m' := 32) (o' := 2) ?_ ?_ rfl (by decide) (by decide) (by decide)
      · skip
        exact (fld_asg (asg_call mInt16 (by decide)) (by kernel_rfl) (by kernel_rfl) rfl (by decide))
      refine Fld.cons (m := 32) (m' := 182) (o' := 3) ?_ ?_ rfl (by decide) (by decide) (by decide)
      · skip
        exact (fld_asg (asg_call mInt16 (by decide)) (by kernel_rfl) (by kernel_rfl) rfl (by decide))
      refine Fld.one ?_;exact (fld_tags (tf := 9) mTags (flatB_is (by kernel_rfl)) (by kernel_rfl) rfl (by decide))
    exact fun w => reps_zero tFeature
  refine Run.cons (m := 192) (o' := 22) ?_ ?_ rfl (by decide) (by decide) isL_nil
  · skip
    exact (fld_tags (tf := 9) mTags (flatB_is (by kernel_rfl)) (by kernel_rfl) rfl (by decide))
  exact run_end completeM (by decide)
theorem setM : SetM Tryz.prog 32 := set_m Tryz.func32 (by kernel_rfl) rfl rfl rfl (by kernel_rfl) (by kernel_rfl)
theorem newM : NewM Tryz.prog 27 (.int .i16 :: tR) [.n 0, .n 0, .s uuid0, .n 0, .nil, .nil, .nil] := new_m (d := id) Tryz.func27 (by kernel_rfl) rfl rfl rfl (zeroB_is (by kernel_rfl)) dR (by decide)
theorem maxM : MaxM Tryz.prog 9 0 := maxd_m (tys := .int .i16 :: tR) (ds := [.n 0, .n 0, .s uuid0, .n 0, .nil, .nil, .nil]) (mx := ((0 : Nat) : Int)) (fmx := 28) (fnw := 27) (f := 9) (P := Tryz.prog) Tryz.func9 (by kernel_rfl) rfl rfl rfl newM (maxv_m Tryz.func28 (by kernel_rfl) rfl rfl rfl) (by decide) (by kernel_rfl) (by kernel_rfl)
theorem rd1 : ReadD Tryz.prog 1 33 tR [.n 0, .s uuid0, .n 0, .nil, .nil, .nil] fl gR := read_d rf Tryz.func33 (by kernel_rfl) rfl rfl rfl
theorem keyM : KeyM Tryz.prog 146 70 := key_m Tryz.func146 (by kernel_rfl) rfl rfl rfl
theorem getvM : GetVM Tryz.prog 144 := getv_m Tryz.func144 (by kernel_rfl) rfl rfl rfl (by kernel_rfl) (by kernel_rfl)
theorem flxM : FlxM Tryz.prog 145 fl := flx_m (kx := 0) Tryz.func145 (by kernel_rfl) rfl rfl rfl (by kernel_rfl) (by kernel_rfl)
theorem reqM : ReqM Tryz.prog 46 tR (fun ver => apSt ((fun _ => []) :: gaQ ver)) 70 fl := ⟨⟨143, (by kernel_rfl), app⟩, ⟨146, (by kernel_rfl), keyM⟩, ⟨144, (by kernel_rfl), getvM⟩, ⟨145, (by kernel_rfl), flxM⟩⟩
theorem appReq : AppReqM Tryz.prog 64 46 tR (fun ver => apSt ((fun _ => []) :: gaQ ver)) 70 fl := appreq_m (te := 5) Tryz.func64 (by kernel_rfl) rfl rfl rfl (by kernel_rfl) octT (by kernel_rfl) (by kernel_rfl) (by kernel_rfl) (by kernel_rfl) (by kernel_rfl) (by kernel_rfl) (by kernel_rfl) (by decide) (by decide) reqM sI16 sI32 oI32 sNStr
theorem framedM : FramedM Tryz.prog 34 46 tR (fun ver => apSt ((fun _ => []) :: gaQ ver)) 70 fl := framed_m (te := 91) (tb := 16) Tryz.func34 (by kernel_rfl) rfl rfl rfl (flatB_is (by kernel_rfl)) (by kernel_rfl) (by kernel_rfl) (by kernel_rfl) newFM clientM appReq
theorem door : FrxM Tryz.prog 1 13 (behRes gR fl (fun ver => apSt ((fun _ => []) :: gaQ ver))) 70 fl := framex_m (te := 5) Tryz.func13 (by kernel_rfl) rfl rfl rfl (by kernel_rfl) octT (by kernel_rfl) (by kernel_rfl) (by kernel_rfl) (flatB_is (by kernel_rfl)) (by kernel_rfl) newM setM rd1 framedM
theorem plListener (ver : Int) (hv : 0 ≤ ver) (t : T) (hk : KeysOk t) : InvL gListener ver (decide (ver ≥ 0)) (gaQListener ver) (partW fssQListener ver (decide (ver ≥ 0)) t) := by
  refine inv_part (by kernel_rfl) ?_;refine invb_cons (inv_has (has_all hv (by decide) (by decide)) (invf_str (by decide))) ?_;refine invb_cons (inv_has (has_all hv (by decide) (by decide)) (invf_str (by decide))) ?_;refine invb_cons (inv_has (has_all hv (by decide) (by decide)) invf_u16) ?_;refine invb_cons (inv_has (has_all hv (by decide) (by decide)) invf_i16) ?_;exact invb_nil (inv_tagend hk)
theorem poListener (ver : Int) (hv : 0 ≤ ver) (t : T) : 1 ≤ (partW fssQListener ver (decide (ver ≥ 0)) t).length := part_pos (by kernel_rfl) (body_head (has_all hv (by decide) (by decide)) (fieldW_pos (by decide)))
theorem plFeature (ver : Int) (hv : 0 ≤ ver) (t : T) (hk : KeysOk t) : InvL gFeature ver (decide (ver ≥ 0)) (gaQFeature ver) (partW fssQFeature ver (decide (ver ≥ 0)) t) := by
  refine inv_part (by kernel_rfl) ?_;refine invb_cons (inv_has (has_all hv (by decide) (by decide)) (invf_str (by decide))) ?_;refine invb_cons (inv_has (has_all hv (by decide) (by decide)) invf_i16) ?_;refine invb_cons (inv_has (has_all hv (by decide) (by decide)) invf_i16) ?_;exact invb_nil (inv_tagend hk)
theorem poFeature (ver : Int) (hv : 0 ≤ ver) (t : T) : 1 ≤ (partW fssQFeature ver (decide (ver ≥ 0)) t).length := part_pos (by kernel_rfl) (body_head (has_all hv (by decide) (by decide)) (fieldW_pos (by decide)))
theorem plR (ver : Int) (hv : 0 ≤ ver) (t : T) (hk : KeysOk t) : InvL gR ver (decide (ver ≥ 0)) (gaQ ver) (partW fsQ ver (decide (ver ≥ 0)) t) := by
  refine inv_part (by kernel_rfl) ?_;refine invb_cons (inv_has (has_all hv (by decide) (by decide)) invf_i32) ?_;refine invb_cons (inv_has (has_all hv (by decide) (by decide)) invf_uuid) ?_;refine invb_cons (inv_has (has_all hv (by decide) (by decide)) invf_bool) ?_;refine invb_cons (inv_has (has_all hv (by decide) (by decide)) (invf_arr (by decide) (fun z hz => inv_el (plListener ver hv z ((KeysOk.at hk.l 3).l z hz))) (fun z => value_pos10 (poListener ver hv z)))) ?_;refine invb_cons (inv_has (has_all hv (by decide) (by decide)) (invf_arr (by decide) (fun z hz => inv_el (plFeature ver hv z ((KeysOk.at hk.l 4).l z hz))) (fun z => value_pos10 (poFeature ver hv z)))) ?_;exact invb_nil (inv_tagend hk)
def small (t : T) : Prop := KeysOk t ∧ ∀ ver flex, (partW fsQ ver flex t).length ≤ 2147483648
theorem law : LawF Tryz.prog 1 3 small := by
  refine lawf_m (mx := 0) (fs := fsQ) (enc := partW fsQ) Tryz.func3 (by kernel_rfl) rfl rfl rfl (flatB_is (by kernel_rfl)) (flatB_is (by kernel_rfl)) (flatB_is (by kernel_rfl)) (by kernel_rfl) (by kernel_rfl) (by kernel_rfl) (by kernel_rfl) (by kernel_rfl) (by kernel_rfl) fit4 wFit maxM (by decide) ifsQ verM (wWrite fsQ (by decide)) door flexM frameS sameM (fun ver _ _ => by simp [fl]) ?_;rintro ver h0 h1 t ⟨hk, hs⟩;refine ⟨hs _ _, ?_⟩;rw [show (decide ((0 : Int) ≥ 0) && decide (ver ≥ 0)) = fl ver from by simp [fl]];exact beh_plain (plR ver h0 t hk)
end Go.Proofs.YtjalbgfaneemfaaGreatDoor.ControllerRegistrationRequest
