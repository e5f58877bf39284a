/- The parts of the law on CreatePartitionsRequest. Printed by gen_msg.py. -/
import Derived.Test.YtjalbgfaneemfaaGreatDoorPCreatePartitionsRequest
import Derived.Test.YtjalbgfaneemfaaGreatDoorCCreatePartitionsRequest
import Derived.Test.YtjalbgfaneemfaaGreatDoorKqCoF
import Derived.Test.YtjalbgfaneemfaaGreatDoorKqP06
set_option linter.unusedVariables false
set_option linter.unusedSimpArgs false
namespace Go.Proofs.YtjalbgfaneemfaaGreatDoor.CreatePartitionsRequest
open Go.Kq
def tTopicAssignment : List Ty := [.arr (.int .i32), .tags]
def gTopicAssignment : Rd := (rdCons (rdArr (fun _ fl st => if fl then gCALen st else gALen st) (rdOne fun _ _ => gNum .i32 4)) (rdCons rdTagsF rdSt0))
theorem dTopicAssignment : DefM Tryz.prog 114 (tTopicAssignment) id := def_skip Tryz.func114 (by kernel_rfl) (by kernel_rfl) (by kernel_rfl)
def tTopic : List Ty := [.str, .int .i32, .arr (.st tTopicAssignment), .tags]
def gTopic : Rd := (rdCons (rdOne fun _ fl st => if fl then gCStr st else gStr st) (rdCons (rdOne fun _ _ => gNum .i32 4) (rdCons (rdArrN (0) (fun _ fl st => if fl then gCALen st else gALen st) gTopicAssignment) (rdCons rdTagsF rdSt0))))
theorem dTopic : DefM Tryz.prog 113 (tTopic) id := def_skip Tryz.func113 (by kernel_rfl) (by kernel_rfl) (by kernel_rfl)
def tR : List Ty := [.arr (.st tTopic), .int .i32, .bool, .tags]
def gR : Rd := (rdCons (rdArr (fun _ fl st => if fl then gCALen st else gALen st) gTopic) (rdCons (rdOne fun _ _ => gNum .i32 4) (rdCons (rdOne fun _ _ => gBool) (rdCons rdTagsF rdSt0))))
theorem dR : DefM Tryz.prog 71 (.int .i16 :: tR) (fun xs => (xs.set 2 (.n (15000)))) := def_sets (N := 5) Tryz.func71 (by kernel_rfl) rfl rfl (by decide) rfl (DRun.one (i := 2) (ty := .int .i32) (x := .n (15000)) (by kernel_rfl) (by kernel_rfl) rfl rfl rfl rfl (fun w => ⟨_, rfl, rfl, by decide, by decide⟩) (by decide))
def fl : Int → Bool := fun v => decide (v ≥ 2)
set_option maxRecDepth 20000 in
theorem rf : ReadM Tryz.prog 1 73 tR [.nil, .n (15000), .n 0, .nil] fl gR := by
  refine root Tryz.func73 (by kernel_rfl) rfl rfl rfl ?_ dR (fun _ => rfl) readerT (by kernel_rfl) (by kernel_rfl) (isL_cons (isL_cons (isL_cons (isL_cons isL_nil)))) (by decide);refine bdy_fl ?_ (by decide);refine Run.cons (m := 11) (o' := 2) ?_ ?_ rfl (by decide) (by decide) (isL_cons (isL_cons (isL_cons isL_nil)))
  · skip
    refine fld_arr (m' := 15) (e0 := 166) (bs := 56) okM completeM (asg_flex (u := 9) (asg_call mCompactArrayLen (by decide)) (asg_call mArrayLen (by decide)) rfl (by decide)) ?_ (by kernel_rfl) (by decide) (by kernel_rfl) (by kernel_rfl) (by kernel_rfl) (zeroB_is (z := [.string ⟨#[]⟩, .int .i32 0, .slice none 0 0, .map none]) (by kernel_rfl)) rfl rfl (by decide);refine elt_st (m' := 17) (et := 166) (z0 := [.s [], .n 0, .nil, .nil]) (bs := 56) ?_ dTopic ?_ (by kernel_rfl) (by decide)
    · skip
      refine Fld.cons (m := 17) (m' := 18) (o' := 1) ?_ ?_ rfl (by decide) (by decide) (by decide)
      · skip
        exact (fld_var (fld_asg (asg_uns (asg_flex (u := 9) (asg_call mUnsafeCompactString (by decide)) (asg_call mUnsafeString (by decide)) rfl (by decide)) (asg_flex (u := 9) (asg_call mCompactString (by decide)) (asg_call mString (by decide)) rfl (by decide)) (by decide)) (by kernel_rfl) (by kernel_rfl) rfl (by decide)) (by decide))
      refine Fld.cons (m := 18) (m' := 19) (o' := 2) ?_ ?_ rfl (by decide) (by decide) (by decide)
      · skip
        exact (fld_asg (asg_call mInt32 (by decide)) (by kernel_rfl) (by kernel_rfl) rfl (by decide))
      refine Fld.cons (m := 19) (m' := 169) (o' := 3) ?_ ?_ rfl (by decide) (by decide) (by decide)
      · skip
        refine fld_arrN (m' := 23) (e0 := 170) (bs := 32) okM completeM (asg_flex (u := 9) (asg_call mCompactArrayLen (by decide)) (asg_call mArrayLen (by decide)) rfl (by decide)) ?_ (by kernel_rfl) (by decide) (by kernel_rfl) (by kernel_rfl) (by kernel_rfl) (zeroB_is (z := [.slice none 0 0, .map none]) (by kernel_rfl)) rfl rfl (by decide) (by decide);refine elt_st (m' := 25) (et := 170) (z0 := [.nil, .nil]) (bs := 32) ?_ dTopicAssignment ?_ (by kernel_rfl) (by decide)
        · skip
          refine Fld.cons (m := 25) (m' := 159) (o' := 1) ?_ ?_ rfl (by decide) (by decide) (by decide)
          · skip
            refine fld_arr (m' := 29) (e0 := 21) (bs := 4) okM completeM (asg_flex (u := 9) (asg_call mCompactArrayLen (by decide)) (asg_call mArrayLen (by decide)) rfl (by decide)) ?_ (by kernel_rfl) (by decide) (by kernel_rfl) (by kernel_rfl) (by kernel_rfl) (zeroB_is (z := [.int .i32 0]) (by kernel_rfl)) rfl rfl (by decide);exact elt_one (m' := 29) (et := 21) (bs := 4) (asg_call mInt32 (by decide)) (by kernel_rfl) (by kernel_rfl) rfl (by decide)
          refine Fld.one ?_;exact (fld_tags (tf := 9) mTags (flatB_is (by kernel_rfl)) (by kernel_rfl) rfl (by decide))
        exact fun w => reps_zero tTopicAssignment
      refine Fld.one ?_;exact (fld_tags (tf := 9) mTags (flatB_is (by kernel_rfl)) (by kernel_rfl) rfl (by decide))
    exact fun w => reps_zero tTopic
  refine Run.cons (m := 30) (o' := 3) ?_ ?_ rfl (by decide) (by decide) (isL_cons (isL_cons isL_nil))
  · skip
    exact (fld_asg (asg_call mInt32 (by decide)) (by kernel_rfl) (by kernel_rfl) rfl (by decide))
  refine Run.cons (m := 31) (o' := 4) ?_ ?_ rfl (by decide) (by decide) (isL_cons isL_nil)
  · skip
    exact (fld_asg (asg_call mBool (by decide)) (by kernel_rfl) (by kernel_rfl) rfl (by decide))
  refine Run.cons (m := 189) (o' := 5) ?_ ?_ rfl (by decide) (by decide) isL_nil
  · skip
    exact (fld_tags (tf := 9) mTags (flatB_is (by kernel_rfl)) (by kernel_rfl) rfl (by decide))
  exact run_end completeM (by decide)
theorem setM : SetM Tryz.prog 49 := set_m Tryz.func49 (by kernel_rfl) rfl rfl rfl (by kernel_rfl) (by kernel_rfl)
theorem newM : NewM Tryz.prog 46 (.int .i16 :: tR) [.n 0, .nil, .n (15000), .n 0, .nil] := new_m (d := (fun xs => (xs.set 2 (.n (15000))))) Tryz.func46 (by kernel_rfl) rfl rfl rfl (zeroB_is (by kernel_rfl)) dR (by decide)
theorem maxM : MaxM Tryz.prog 23 3 := maxd_m (tys := .int .i16 :: tR) (ds := [.n 0, .nil, .n (15000), .n 0, .nil]) (mx := ((3 : Nat) : Int)) (fmx := 47) (fnw := 46) (f := 23) (P := Tryz.prog) Tryz.func23 (by kernel_rfl) rfl rfl rfl newM (maxv_m Tryz.func47 (by kernel_rfl) rfl rfl rfl) (by decide) (by kernel_rfl) (by kernel_rfl)
theorem rd1 : ReadD Tryz.prog 1 50 tR [.nil, .n (15000), .n 0, .nil] fl gR := read_d rf Tryz.func50 (by kernel_rfl) rfl rfl rfl
theorem keyM : KeyM Tryz.prog 205 37 := key_m Tryz.func205 (by kernel_rfl) rfl rfl rfl
theorem getvM : GetVM Tryz.prog 203 := getv_m Tryz.func203 (by kernel_rfl) rfl rfl rfl (by kernel_rfl) (by kernel_rfl)
theorem flxM : FlxM Tryz.prog 204 fl := flx_m (kx := 2) Tryz.func204 (by kernel_rfl) rfl rfl rfl (by kernel_rfl) (by kernel_rfl)
theorem reqM : ReqM Tryz.prog 63 tR (fun ver => apSt ((fun _ => []) :: gaQ ver)) 37 fl := ⟨⟨202, (by kernel_rfl), app⟩, ⟨205, (by kernel_rfl), keyM⟩, ⟨203, (by kernel_rfl), getvM⟩, ⟨204, (by kernel_rfl), flxM⟩⟩
theorem appReq : AppReqM Tryz.prog 64 63 tR (fun ver => apSt ((fun _ => []) :: gaQ ver)) 37 fl := appreq_m (te := 5) Tryz.func64 (by kernel_rfl) rfl rfl rfl (by kernel_rfl) octT (by kernel_rfl) (by kernel_rfl) (by kernel_rfl) (by kernel_rfl) (by kernel_rfl) (by kernel_rfl) (by kernel_rfl) (by decide) (by decide) reqM sI16 sI32 oI32 sNStr
theorem framedM : FramedM Tryz.prog 34 63 tR (fun ver => apSt ((fun _ => []) :: gaQ ver)) 37 fl := framed_m (te := 91) (tb := 16) Tryz.func34 (by kernel_rfl) rfl rfl rfl (flatB_is (by kernel_rfl)) (by kernel_rfl) (by kernel_rfl) (by kernel_rfl) newFM clientM appReq
theorem door : FrxM Tryz.prog 1 25 (behRes gR fl (fun ver => apSt ((fun _ => []) :: gaQ ver))) 37 fl := framex_m (te := 5) Tryz.func25 (by kernel_rfl) rfl rfl rfl (by kernel_rfl) octT (by kernel_rfl) (by kernel_rfl) (by kernel_rfl) (flatB_is (by kernel_rfl)) (by kernel_rfl) newM setM rd1 framedM
theorem plTopicAssignment (ver : Int) (hv : 0 ≤ ver) (t : T) (hk : KeysOk t) : InvL gTopicAssignment ver (decide (ver ≥ 2)) (gaQTopicAssignment ver) (partW fssQTopicAssignment ver (decide (ver ≥ 2)) t) := by
  refine inv_part (by kernel_rfl) ?_;refine invb_cons (inv_has (has_all hv (by decide) (by decide)) (invf_arr (by decide) (fun z hz => inv_el_i32) (fun z => value_pos (by decide)))) ?_;exact invb_nil (inv_tagend hk)
theorem poTopicAssignment (ver : Int) (hv : 0 ≤ ver) (t : T) : 1 ≤ (partW fssQTopicAssignment ver (decide (ver ≥ 2)) t).length := part_pos (by kernel_rfl) (body_head (has_all hv (by decide) (by decide)) (fieldW_pos (by decide)))
theorem plTopic (ver : Int) (hv : 0 ≤ ver) (t : T) (hk : KeysOk t) : InvL gTopic ver (decide (ver ≥ 2)) (gaQTopic ver) (partW fssQTopic ver (decide (ver ≥ 2)) t) := by
  refine inv_part (by kernel_rfl) ?_;refine invb_cons (inv_has (has_all hv (by decide) (by decide)) (invf_str (by decide))) ?_;refine invb_cons (inv_has (has_all hv (by decide) (by decide)) invf_i32) ?_;refine invb_cons (inv_has (has_all hv (by decide) (by decide)) (invf_arrN hv (by decide) (fun z hz => inv_el (plTopicAssignment ver hv z ((KeysOk.at hk.l 2).l z hz))) (fun z => value_pos10 (poTopicAssignment ver hv z)))) ?_;exact invb_nil (inv_tagend hk)
theorem poTopic (ver : Int) (hv : 0 ≤ ver) (t : T) : 1 ≤ (partW fssQTopic ver (decide (ver ≥ 2)) t).length := part_pos (by kernel_rfl) (body_head (has_all hv (by decide) (by decide)) (fieldW_pos (by decide)))
theorem plR (ver : Int) (hv : 0 ≤ ver) (t : T) (hk : KeysOk t) : InvL gR ver (decide (ver ≥ 2)) (gaQ ver) (partW fsQ ver (decide (ver ≥ 2)) t) := by
  refine inv_part (by kernel_rfl) ?_;refine invb_cons (inv_has (has_all hv (by decide) (by decide)) (invf_arr (by decide) (fun z hz => inv_el (plTopic ver hv z ((KeysOk.at hk.l 0).l z hz))) (fun z => value_pos10 (poTopic ver hv z)))) ?_;refine invb_cons (inv_has (has_all hv (by decide) (by decide)) invf_i32) ?_;refine invb_cons (inv_has (has_all hv (by decide) (by decide)) invf_bool) ?_;exact invb_nil (inv_tagend hk)
def small (t : T) : Prop := KeysOk t ∧ ∀ ver flex, (partW fsQ ver flex t).length ≤ 2147483648
theorem law : LawF Tryz.prog 1 6 small := by
  refine lawf_m (mx := 3) (fs := fsQ) (enc := partW fsQ) Tryz.func6 (by kernel_rfl) rfl rfl rfl (flatB_is (by kernel_rfl)) (flatB_is (by kernel_rfl)) (flatB_is (by kernel_rfl)) (by kernel_rfl) (by kernel_rfl) (by kernel_rfl) (by kernel_rfl) (by kernel_rfl) (by kernel_rfl) fit4 wFit maxM (by decide) ifsQ verM (wWrite fsQ (by decide)) door flexM frameS sameM (fun ver _ _ => by simp [fl]) ?_;rintro ver h0 h1 t ⟨hk, hs⟩;refine ⟨hs _ _, ?_⟩;rw [show (decide ((2 : Int) ≥ 0) && decide (ver ≥ 2)) = fl ver from by simp [fl]];exact beh_plain (plR ver h0 t hk)
end Go.Proofs.YtjalbgfaneemfaaGreatDoor.CreatePartitionsRequest
