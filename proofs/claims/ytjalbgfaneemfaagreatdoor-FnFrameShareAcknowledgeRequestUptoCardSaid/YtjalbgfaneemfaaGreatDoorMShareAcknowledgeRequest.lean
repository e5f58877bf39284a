/- The parts of the law on ShareAcknowledgeRequest. Printed by gen_msg.py. -/
import Derived.Test.YtjalbgfaneemfaaGreatDoorPShareAcknowledgeRequest
import Derived.Test.YtjalbgfaneemfaaGreatDoorCShareAcknowledgeRequest
import Derived.Test.YtjalbgfaneemfaaGreatDoorKqCoF
import Derived.Test.YtjalbgfaneemfaaGreatDoorKqP06
set_option linter.unusedVariables false
set_option linter.unusedSimpArgs false
namespace Go.Proofs.YtjalbgfaneemfaaGreatDoor.ShareAcknowledgeRequest
open Go.Kq
def tTopicPartitionAcknowledgementBatch : List Ty := [.int .i64, .int .i64, .arr (.int .i8), .tags]
def gTopicPartitionAcknowledgementBatch : Rd := (rdCons (rdOne fun _ _ => gNum .i64 8) (rdCons (rdOne fun _ _ => gNum .i64 8) (rdCons (rdArr (fun _ fl st => if fl then gCALen st else gALen st) (rdOne fun _ _ => gI8)) (rdCons rdTagsF rdSt0))))
theorem dTopicPartitionAcknowledgementBatch : DefM Tryz.prog 106 (tTopicPartitionAcknowledgementBatch) id := def_skip Tryz.func106 (by kernel_rfl) (by kernel_rfl) (by kernel_rfl)
def tTopicPartition : List Ty := [.int .i32, .arr (.st tTopicPartitionAcknowledgementBatch), .tags]
def gTopicPartition : Rd := (rdCons (rdOne fun _ _ => gNum .i32 4) (rdCons (rdArr (fun _ fl st => if fl then gCALen st else gALen st) gTopicPartitionAcknowledgementBatch) (rdCons rdTagsF rdSt0)))
theorem dTopicPartition : DefM Tryz.prog 105 (tTopicPartition) id := def_skip Tryz.func105 (by kernel_rfl) (by kernel_rfl) (by kernel_rfl)
def tTopic : List Ty := [.uuid, .arr (.st tTopicPartition), .tags]
def gTopic : Rd := (rdCons (rdOne fun _ _ => gUuid) (rdCons (rdArr (fun _ fl st => if fl then gCALen st else gALen st) gTopicPartition) (rdCons rdTagsF rdSt0)))
theorem dTopic : DefM Tryz.prog 104 (tTopic) id := def_skip Tryz.func104 (by kernel_rfl) (by kernel_rfl) (by kernel_rfl)
def tR : List Ty := [.pstr, .pstr, .int .i32, .bool, .arr (.st tTopic), .tags]
def gR : Rd := (rdCons (rdOne fun _ fl st => if fl then gCNStr st else gNStr st) (rdCons (rdOne fun _ fl st => if fl then gCNStr st else gNStr st) (rdCons (rdOne fun _ _ => gNum .i32 4) (rdCons (rdIf (fun v => decide (v ≥ 2)) (.n 0) (rdOne fun _ _ => gBool)) (rdCons (rdArr (fun _ fl st => if fl then gCALen st else gALen st) gTopic) (rdCons rdTagsF rdSt0))))))
theorem dR : DefM Tryz.prog 65 (.int .i16 :: tR) id := def_skip Tryz.func65 (by kernel_rfl) (by kernel_rfl) (by kernel_rfl)
def fl : Int → Bool := fun v => decide (v ≥ 0)
set_option maxRecDepth 20000 in
theorem rf : ReadM Tryz.prog 1 67 tR [.nil, .nil, .n 0, .n 0, .nil, .nil] fl gR := by
  refine root Tryz.func67 (by kernel_rfl) rfl rfl rfl ?_ dR (fun _ => rfl) readerT (by kernel_rfl) (by kernel_rfl) (isL_cons (isL_cons (isL_cons (isL_cons (isL_cons (isL_cons isL_nil)))))) (by decide);refine bdy_fl ?_ (by decide);refine Run.cons (m := 11) (o' := 2) ?_ ?_ rfl (by decide) (by decide) (isL_cons (isL_cons (isL_cons (isL_cons (isL_cons isL_nil)))))
  · skip
    exact (fld_var (fld_asg (asg_flex (u := 9) (asg_uns (asg_call mUnsafeCompactNullableString (by decide)) (asg_call mCompactNullableString (by decide)) (by decide)) (asg_uns (asg_call mUnsafeNullableString (by decide)) (asg_call mNullableString (by decide)) (by decide)) rfl (by decide)) (by kernel_rfl) (by kernel_rfl) rfl (by decide)) (by decide))
  refine Run.cons (m := 12) (o' := 3) ?_ ?_ rfl (by decide) (by decide) (isL_cons (isL_cons (isL_cons (isL_cons isL_nil))))
  · skip
    exact (fld_var (fld_asg (asg_flex (u := 9) (asg_uns (asg_call mUnsafeCompactNullableString (by decide)) (asg_call mCompactNullableString (by decide)) (by decide)) (asg_uns (asg_call mUnsafeNullableString (by decide)) (asg_call mNullableString (by decide)) (by decide)) rfl (by decide)) (by kernel_rfl) (by kernel_rfl) rfl (by decide)) (by decide))
  refine Run.cons (m := 13) (o' := 4) ?_ ?_ rfl (by decide) (by decide) (isL_cons (isL_cons (isL_cons isL_nil)))
  · skip
    exact (fld_asg (asg_call mInt32 (by decide)) (by kernel_rfl) (by kernel_rfl) rfl (by decide))
  refine Run.cons (m := 14) (o' := 5) ?_ ?_ rfl (by decide) (by decide) (isL_cons (isL_cons isL_nil))
  · skip
    exact (fld_if (fld_asg (asg_call mBool (by decide)) (by kernel_rfl) (by kernel_rfl) rfl (by decide)) (fun i => rfl) (by decide))
  refine Run.cons (m := 15) (o' := 6) ?_ ?_ rfl (by decide) (by decide) (isL_cons isL_nil)
  · skip
    refine fld_arr (m' := 19) (e0 := 140) (bs := 48) okM completeM (asg_flex (u := 9) (asg_call mCompactArrayLen (by decide)) (asg_call mArrayLen (by decide)) rfl (by decide)) ?_ (by kernel_rfl) (by decide) (by kernel_rfl) (by kernel_rfl) (by kernel_rfl) (zeroB_is (z := [.int .u8 0, .int .u8 0, .int .u8 0, .int .u8 0, .int .u8 0, .int .u8 0, .int .u8 0, .int .u8 0, .int .u8 0, .int .u8 0, .int .u8 0, .int .u8 0, .int .u8 0, .int .u8 0, .int .u8 0, .int .u8 0, .slice none 0 0, .map none]) (by kernel_rfl)) rfl rfl (by decide);refine elt_st (m' := 21) (et := 140) (z0 := [.s uuid0, .nil, .nil]) (bs := 48) ?_ dTopic ?_ (by kernel_rfl) (by decide)
    · skip
      refine Fld.cons (m := 21) (m' := 22) (o' := 16) ?_ ?_ rfl (by decide) (by decide) (by decide)
      · skip
        exact (fld_uuid mUuid uuidT (by kernel_rfl) (by decide))
      refine Fld.cons (m := 22) (m' := 249) (o' := 17) ?_ ?_ rfl (by decide) (by decide) (by decide)
      · skip
        refine fld_arr (m' := 26) (e0 := 144) (bs := 40) okM completeM (asg_flex (u := 9) (asg_call mCompactArrayLen (by decide)) (asg_call mArrayLen (by decide)) rfl (by decide)) ?_ (by kernel_rfl) (by decide) (by kernel_rfl) (by kernel_rfl) (by kernel_rfl) (zeroB_is (z := [.int .i32 0, .slice none 0 0, .map none]) (by kernel_rfl)) rfl rfl (by decide);refine elt_st (m' := 28) (et := 144) (z0 := [.n 0, .nil, .nil]) (bs := 40) ?_ dTopicPartition ?_ (by kernel_rfl) (by decide)
        · skip
          refine Fld.cons (m := 28) (m' := 29) (o' := 1) ?_ ?_ rfl (by decide) (by decide) (by decide)
          · skip
            exact (fld_asg (asg_call mInt32 (by decide)) (by kernel_rfl) (by kernel_rfl) rfl (by decide))
          refine Fld.cons (m := 29) (m' := 239) (o' := 2) ?_ ?_ rfl (by decide) (by decide) (by decide)
          · skip
            refine fld_arr (m' := 33) (e0 := 148) (bs := 48) okM completeM (asg_flex (u := 9) (asg_call mCompactArrayLen (by decide)) (asg_call mArrayLen (by decide)) rfl (by decide)) ?_ (by kernel_rfl) (by decide) (by kernel_rfl) (by kernel_rfl) (by kernel_rfl) (zeroB_is (z := [.int .i64 0, .int .i64 0, .slice none 0 0, .map none]) (by kernel_rfl)) rfl rfl (by decide);refine elt_st (m' := 35) (et := 148) (z0 := [.n 0, .n 0, .nil, .nil]) (bs := 48) ?_ dTopicPartitionAcknowledgementBatch ?_ (by kernel_rfl) (by decide)
            · skip
              refine Fld.cons (m := 35) (m' := 36) (o' := 1) ?_ ?_ rfl (by decide) (by decide) (by decide)
              · skip
                exact (fld_asg (asg_call mInt64 (by decide)) (by kernel_rfl) (by kernel_rfl) rfl (by decide))
              refine Fld.cons (m := 36) (m' := 37) (o' := 2) ?_ ?_ rfl (by decide) (by decide) (by decide)
              · skip
                exact (fld_asg (asg_call mInt64 (by decide)) (by kernel_rfl) (by kernel_rfl) rfl (by decide))
              refine Fld.cons (m := 37) (m' := 229) (o' := 3) ?_ ?_ rfl (by decide) (by decide) (by decide)
              · skip
                refine fld_arr (m' := 41) (e0 := 150) (bs := 1) okM completeM (asg_flex (u := 9) (asg_call mCompactArrayLen (by decide)) (asg_call mArrayLen (by decide)) rfl (by decide)) ?_ (by kernel_rfl) (by decide) (by kernel_rfl) (by kernel_rfl) (by kernel_rfl) (zeroB_is (z := [.int .i8 0]) (by kernel_rfl)) rfl rfl (by decide);exact elt_one (m' := 41) (et := 150) (bs := 1) (asg_call mInt8 (by decide)) (by kernel_rfl) (by kernel_rfl) rfl (by decide)
              refine Fld.one ?_;exact (fld_tags (tf := 9) mTags (fBi (by kernel_rfl)) (by kernel_rfl) rfl (by decide))
            exact fun w => reps_zero tTopicPartitionAcknowledgementBatch
          refine Fld.one ?_;exact (fld_tags (tf := 9) mTags (fBi (by kernel_rfl)) (by kernel_rfl) rfl (by decide))
        exact fun w => reps_zero tTopicPartition
      refine Fld.one ?_;exact (fld_tags (tf := 9) mTags (fBi (by kernel_rfl)) (by kernel_rfl) rfl (by decide))
    exact fun w => reps_zero tTopic
  refine Run.cons (m := 259) (o' := 7) ?_ ?_ rfl (by decide) (by decide) isL_nil
  · skip
    exact (fld_tags (tf := 9) mTags (fBi (by kernel_rfl)) (by kernel_rfl) rfl (by decide))
  exact run_end completeM (by decide)
theorem setM : SetM Tryz.prog 39 := set_m Tryz.func39 (by kernel_rfl) rfl rfl rfl (by kernel_rfl) (by kernel_rfl)
theorem newM : NewM Tryz.prog 36 (.int .i16 :: tR) [.n 0, .nil, .nil, .n 0, .n 0, .nil, .nil] := new_m (d := id) Tryz.func36 (by kernel_rfl) rfl rfl rfl (zeroB_is (by kernel_rfl)) dR (by decide)
theorem maxM : MaxM Tryz.prog 17 2 := maxd_m (tys := .int .i16 :: tR) (ds := [.n 0, .nil, .nil, .n 0, .n 0, .nil, .nil]) (mx := ((2 : Nat) : Int)) (fmx := 37) (fnw := 36) (f := 17) (P := Tryz.prog) Tryz.func17 (by kernel_rfl) rfl rfl rfl newM (maxv_m Tryz.func37 (by kernel_rfl) rfl rfl rfl) (by decide) (by kernel_rfl) (by kernel_rfl)
theorem rd1 : ReadD Tryz.prog 1 40 tR [.nil, .nil, .n 0, .n 0, .nil, .nil] fl gR := read_d rf Tryz.func40 (by kernel_rfl) rfl rfl rfl
theorem keyM : KeyM Tryz.prog 193 79 := key_m Tryz.func193 (by kernel_rfl) rfl rfl rfl
theorem getvM : GetVM Tryz.prog 191 := getv_m Tryz.func191 (by kernel_rfl) rfl rfl rfl (by kernel_rfl) (by kernel_rfl)
theorem flxM : FlxM Tryz.prog 192 fl := flx_m (kx := 0) Tryz.func192 (by kernel_rfl) rfl rfl rfl (by kernel_rfl) (by kernel_rfl)
theorem reqM : ReqM Tryz.prog 59 tR (fun ver => apSt ((fun _ => []) :: gaQ ver)) 79 fl := ⟨⟨190, (by kernel_rfl), app⟩, ⟨193, (by kernel_rfl), keyM⟩, ⟨191, (by kernel_rfl), getvM⟩, ⟨192, (by kernel_rfl), flxM⟩⟩
theorem appReq : AppReqM Tryz.prog 64 59 tR (fun ver => apSt ((fun _ => []) :: gaQ ver)) 79 fl := appreq_m (te := 5) Tryz.func64 (by kernel_rfl) rfl rfl rfl (by kernel_rfl) octT (by kernel_rfl) (by kernel_rfl) (by kernel_rfl) (by kernel_rfl) (by kernel_rfl) (by kernel_rfl) (by kernel_rfl) (by decide) (by decide) reqM sI16 sI32 oI32 sNStr
theorem framedM : FramedM Tryz.prog 34 59 tR (fun ver => apSt ((fun _ => []) :: gaQ ver)) 79 fl := framed_m (te := 91) (tb := 16) Tryz.func34 (by kernel_rfl) rfl rfl rfl (fBi (by kernel_rfl)) (by kernel_rfl) (by kernel_rfl) (by kernel_rfl) newFM clientM appReq
theorem door : FrxM Tryz.prog 1 19 (behRes gR fl (fun ver => apSt ((fun _ => []) :: gaQ ver))) 79 fl := framex_m (te := 5) Tryz.func19 (by kernel_rfl) rfl rfl rfl (by kernel_rfl) octT (by kernel_rfl) (by kernel_rfl) (by kernel_rfl) (fBi (by kernel_rfl)) (by kernel_rfl) newM setM rd1 framedM
theorem plTopicPartitionAcknowledgementBatch (ver : Int) (hv : 0 ≤ ver) (t : T) (hk : KeysOk t) : InvL gTopicPartitionAcknowledgementBatch ver (decide (ver ≥ 0)) (gaQTopicPartitionAcknowledgementBatch ver) (partW fssQTopicPartitionAcknowledgementBatch ver (decide (ver ≥ 0)) t) := by
  refine inv_part (by kernel_rfl) ?_;refine invb_cons (inv_has (has_all hv (by decide) (by decide)) invf_i64) ?_;refine invb_cons (inv_has (has_all hv (by decide) (by decide)) invf_i64) ?_;refine invb_cons (inv_has (has_all hv (by decide) (by decide)) (invf_arr (by decide) (fun z hz => inv_el_i8) (fun z => value_pos (by decide)))) ?_;exact invb_nil (inv_tagend hk)
theorem poTopicPartitionAcknowledgementBatch (ver : Int) (hv : 0 ≤ ver) (t : T) : 1 ≤ (partW fssQTopicPartitionAcknowledgementBatch ver (decide (ver ≥ 0)) t).length := part_pos (by kernel_rfl) (body_head (has_all hv (by decide) (by decide)) (fieldW_pos (by decide)))
theorem plTopicPartition (ver : Int) (hv : 0 ≤ ver) (t : T) (hk : KeysOk t) : InvL gTopicPartition ver (decide (ver ≥ 0)) (gaQTopicPartition ver) (partW fssQTopicPartition ver (decide (ver ≥ 0)) t) := by
  refine inv_part (by kernel_rfl) ?_;refine invb_cons (inv_has (has_all hv (by decide) (by decide)) invf_i32) ?_;refine invb_cons (inv_has (has_all hv (by decide) (by decide)) (invf_arr (by decide) (fun z hz => inv_el (plTopicPartitionAcknowledgementBatch ver hv z ((KeysOk.at hk.l 1).l z hz))) (fun z => value_pos10 (poTopicPartitionAcknowledgementBatch ver hv z)))) ?_;exact invb_nil (inv_tagend hk)
theorem poTopicPartition (ver : Int) (hv : 0 ≤ ver) (t : T) : 1 ≤ (partW fssQTopicPartition ver (decide (ver ≥ 0)) t).length := part_pos (by kernel_rfl) (body_head (has_all hv (by decide) (by decide)) (fieldW_pos (by decide)))
theorem plTopic (ver : Int) (hv : 0 ≤ ver) (t : T) (hk : KeysOk t) : InvL gTopic ver (decide (ver ≥ 0)) (gaQTopic ver) (partW fssQTopic ver (decide (ver ≥ 0)) t) := by
  refine inv_part (by kernel_rfl) ?_;refine invb_cons (inv_has (has_all hv (by decide) (by decide)) invf_uuid) ?_;refine invb_cons (inv_has (has_all hv (by decide) (by decide)) (invf_arr (by decide) (fun z hz => inv_el (plTopicPartition ver hv z ((KeysOk.at hk.l 1).l z hz))) (fun z => value_pos10 (poTopicPartition ver hv z)))) ?_;exact invb_nil (inv_tagend hk)
theorem poTopic (ver : Int) (hv : 0 ≤ ver) (t : T) : 1 ≤ (partW fssQTopic ver (decide (ver ≥ 0)) t).length := part_pos (by kernel_rfl) (body_head (has_all hv (by decide) (by decide)) (fieldW_pos (by decide)))
theorem plR (ver : Int) (hv : 0 ≤ ver) (t : T) (hk : KeysOk t) : InvL gR ver (decide (ver ≥ 0)) (gaQ ver) (partW fsQ ver (decide (ver ≥ 0)) t) := by
  refine inv_part (by kernel_rfl) ?_;refine invb_cons (inv_has (has_all hv (by decide) (by decide)) invf_pstr) ?_;refine invb_cons (inv_has (has_all hv (by decide) (by decide)) invf_pstr) ?_;refine invb_cons (inv_has (has_all hv (by decide) (by decide)) invf_i32) ?_;refine invb_cons (inv_gate (p := fun v => decide (v ≥ 2)) (has_ge (by decide)) invf_bool) ?_;refine invb_cons (inv_has (has_all hv (by decide) (by decide)) (invf_arr (by decide) (fun z hz => inv_el (plTopic ver hv z ((KeysOk.at hk.l 4).l z hz))) (fun z => value_pos10 (poTopic ver hv z)))) ?_;exact invb_nil (inv_tagend hk)
def small (t : T) : Prop := KeysOk t ∧ ∀ ver flex, (partW fsQ ver flex t).length ≤ 2147483648
theorem law : LawF Tryz.prog 1 4 small := by
  refine lawf_m (mx := 2) (fs := fsQ) (enc := partW fsQ) Tryz.func4 (by kernel_rfl) rfl rfl rfl (fBi (by kernel_rfl)) (fBi (by kernel_rfl)) (fBi (by kernel_rfl)) (by kernel_rfl) (by kernel_rfl) (by kernel_rfl) (by kernel_rfl) (by kernel_rfl) (by kernel_rfl) fit4 wFit maxM (by decide) ifsQ verM (wWrite fsQ (by decide)) door flexM frameS sameM (fun ver _ _ => by simp [fl]) ?_;rintro ver h0 h1 t ⟨hk, hs⟩;refine ⟨hs _ _, ?_⟩;rw [show (decide ((0 : Int) ≥ 0) && decide (ver ≥ 0)) = fl ver from by simp [fl]];exact beh_plain (plR ver h0 t hk)
end Go.Proofs.YtjalbgfaneemfaaGreatDoor.ShareAcknowledgeRequest
