/- The parts of the law on ShareFetchResponse. Printed by gen_msg.py. -/
import Derived.Test.YtokkeelmccdcaaaGreatDoorPShareFetchResponse
import Derived.Test.YtokkeelmccdcaaaGreatDoorCShareFetchResponse
import Derived.Test.YtokkeelmccdcaaaGreatDoorKqP06
set_option linter.unusedVariables false
set_option linter.unusedSimpArgs false
namespace Go.Proofs.YtokkeelmccdcaaaGreatDoor.ShareFetchResponse
open Go.Kq
theorem mNullableBytes : MethV Tryz.prog 102 .bytes gNBytes := nbytes_m Tryz.func102 (by kernel_rfl) rfl rfl rfl (by kernel_rfl) (by kernel_rfl) mInt32 spanM
theorem mCompactNullableBytes : MethV Tryz.prog 101 .bytes gCNBytes := cnbytes_m Tryz.func101 (by kernel_rfl) rfl rfl rfl (by kernel_rfl) (by kernel_rfl) mUvarint spanM
def tTopicPartitionCurrentLeader : List Ty := [.int .i32, .int .i32, .tags]
def gTopicPartitionCurrentLeader : Rd := (rdCons (rdOne fun _ _ => gNum .i32 4) (rdCons (rdOne fun _ _ => gNum .i32 4) (rdCons rdTagsF rdSt0)))
theorem dTopicPartitionCurrentLeader : DefM Tryz.prog 99 (tTopicPartitionCurrentLeader) id := def_skip Tryz.func99 (by kernel_rfl) (by kernel_rfl) (by kernel_rfl)
def tTopicPartitionAcquiredRecord : List Ty := [.int .i64, .int .i64, .int .i16, .tags]
def gTopicPartitionAcquiredRecord : Rd := (rdCons (rdOne fun _ _ => gNum .i64 8) (rdCons (rdOne fun _ _ => gNum .i64 8) (rdCons (rdOne fun _ _ => gNum .i16 2) (rdCons rdTagsF rdSt0))))
theorem dTopicPartitionAcquiredRecord : DefM Tryz.prog 103 (tTopicPartitionAcquiredRecord) id := def_skip Tryz.func103 (by kernel_rfl) (by kernel_rfl) (by kernel_rfl)
def tTopicPartition : List Ty := [.int .i32, .int .i16, .pstr, .int .i16, .pstr, .st tTopicPartitionCurrentLeader, .bytes, .arr (.st tTopicPartitionAcquiredRecord), .tags]
def gTopicPartition : Rd := (rdCons (rdOne fun _ _ => gNum .i32 4) (rdCons (rdOne fun _ _ => gNum .i16 2) (rdCons (rdOne fun _ fl st => if fl then gCNStr st else gNStr st) (rdCons (rdOne fun _ _ => gNum .i16 2) (rdCons (rdOne fun _ fl st => if fl then gCNStr st else gNStr st) (rdCons gTopicPartitionCurrentLeader (rdCons (rdOne fun _ fl st => if fl then gCNBytes st else gNBytes st) (rdCons (rdArr (fun _ fl st => if fl then gCALen st else gALen st) gTopicPartitionAcquiredRecord) (rdCons rdTagsF rdSt0)))))))))
theorem dTopicPartition : DefM Tryz.prog 98 (tTopicPartition) id := def_look (o := 5) Tryz.func98 (by kernel_rfl) rfl rfl rfl (by kernel_rfl)
def tTopic : List Ty := [.uuid, .arr (.st tTopicPartition), .tags]
def gTopic : Rd := (rdCons (rdOne fun _ _ => gUuid) (rdCons (rdArr (fun _ fl st => if fl then gCALen st else gALen st) gTopicPartition) (rdCons rdTagsF rdSt0)))
theorem dTopic : DefM Tryz.prog 96 (tTopic) id := def_skip Tryz.func96 (by kernel_rfl) (by kernel_rfl) (by kernel_rfl)
def tNodeEndpoint : List Ty := [.int .i32, .str, .int .i32, .pstr, .tags]
def gNodeEndpoint : Rd := (rdCons (rdOne fun _ _ => gNum .i32 4) (rdCons (rdOne fun _ fl st => if fl then gCStr st else gStr st) (rdCons (rdOne fun _ _ => gNum .i32 4) (rdCons (rdOne fun _ fl st => if fl then gCNStr st else gNStr st) (rdCons rdTagsF rdSt0)))))
theorem dNodeEndpoint : DefM Tryz.prog 105 (tNodeEndpoint) id := def_skip Tryz.func105 (by kernel_rfl) (by kernel_rfl) (by kernel_rfl)
def tR : List Ty := [.int .i32, .int .i16, .pstr, .int .i32, .arr (.st tTopic), .arr (.st tNodeEndpoint), .tags]
def gR : Rd := (rdCons (rdOne fun _ _ => gNum .i32 4) (rdCons (rdOne fun _ _ => gNum .i16 2) (rdCons (rdOne fun _ fl st => if fl then gCNStr st else gNStr st) (rdCons (rdIf (fun v => decide (v ≥ 1)) (.n 0) (rdOne fun _ _ => gNum .i32 4)) (rdCons (rdArr (fun _ fl st => if fl then gCALen st else gALen st) gTopic) (rdCons (rdArr (fun _ fl st => if fl then gCALen st else gALen st) gNodeEndpoint) (rdCons rdTagsF rdSt0)))))))
theorem dR : DefM Tryz.prog 46 (.int .i16 :: tR) id := def_skip Tryz.func46 (by kernel_rfl) (by kernel_rfl) (by kernel_rfl)
def fl : Int → Bool := fun v => decide (v ≥ 0)
set_option maxRecDepth 20000 in
theorem rf : ReadM Tryz.prog 1 55 tR [.n 0, .n 0, .nil, .n 0, .nil, .nil, .nil] fl gR := by
  refine root Tryz.func55 (by kernel_rfl) rfl rfl rfl ?_ dR (fun _ => rfl) readerT (by kernel_rfl) (by kernel_rfl) (isL_cons (isL_cons (isL_cons (isL_cons (isL_cons (isL_cons (isL_cons isL_nil))))))) (by decide);refine bdy_fl ?_ (by decide);refine Run.cons (m := 11) (o' := 2) ?_ ?_ rfl (by decide) (by decide) (isL_cons (isL_cons (isL_cons (isL_cons (isL_cons (isL_cons isL_nil))))))
  · skip
    exact (fld_asg (asg_call mInt32 (by decide)) (by kernel_rfl) (by kernel_rfl) rfl (by decide))
  refine Run.cons (m := 12) (o' := 3) ?_ ?_ rfl (by decide) (by decide) (isL_cons (isL_cons (isL_cons (isL_cons (isL_cons isL_nil)))))
  · skip
    exact (fld_asg (asg_call mInt16 (by decide)) (by kernel_rfl) (by kernel_rfl) rfl (by decide))
  refine Run.cons (m := 13) (o' := 4) ?_ ?_ rfl (by decide) (by decide) (isL_cons (isL_cons (isL_cons (isL_cons isL_nil))))
  · skip
    exact (fld_var (fld_asg (asg_flex (u := 9) (asg_uns (asg_call mUnsafeCompactNullableString (by decide)) (asg_call mCompactNullableString (by decide)) (by decide)) (asg_uns (asg_call mUnsafeNullableString (by decide)) (asg_call mNullableString (by decide)) (by decide)) rfl (by decide)) (by kernel_rfl) (by kernel_rfl) rfl (by decide)) (by decide))
  refine Run.cons (m := 14) (o' := 5) ?_ ?_ rfl (by decide) (by decide) (isL_cons (isL_cons (isL_cons isL_nil)))
  · skip
    exact (fld_if (fld_asg (asg_call mInt32 (by decide)) (by kernel_rfl) (by kernel_rfl) rfl (by decide)) (fun i => rfl) (by decide))
  refine Run.cons (m := 15) (o' := 6) ?_ ?_ rfl (by decide) (by decide) (isL_cons (isL_cons isL_nil))
  · skip
    refine fld_arr (m' := 19) (e0 := 98) (bs := 48) okM completeM (asg_flex (u := 9) (asg_call mCompactArrayLen (by decide)) (asg_call mArrayLen (by decide)) rfl (by decide)) ?_ (by kernel_rfl) (by decide) (by kernel_rfl) (by kernel_rfl) (by kernel_rfl) (zeroB_is (z := [.int .u8 0, .int .u8 0, .int .u8 0, .int .u8 0, .int .u8 0, .int .u8 0, .int .u8 0, .int .u8 0, .int .u8 0, .int .u8 0, .int .u8 0, .int .u8 0, .int .u8 0, .int .u8 0, .int .u8 0, .int .u8 0, .slice none 0 0, .map none]) (by kernel_rfl)) rfl rfl (by decide);refine elt_st (m' := 21) (et := 98) (z0 := [.s uuid0, .nil, .nil]) (bs := 48) ?_ dTopic ?_ (by kernel_rfl) (by decide)
    · skip
      refine Fld.cons (m := 21) (m' := 22) (o' := 16) ?_ ?_ rfl (by decide) (by decide) (by decide)
      · skip
        exact (fld_uuid mUuid uuidT (by kernel_rfl) (by decide))
      refine Fld.cons (m := 22) (m' := 290) (o' := 17) ?_ ?_ rfl (by decide) (by decide) (by decide)
      · skip
        refine fld_arr (m' := 26) (e0 := 105) (bs := 104) okM completeM (asg_flex (u := 9) (asg_call mCompactArrayLen (by decide)) (asg_call mArrayLen (by decide)) rfl (by decide)) ?_ (by kernel_rfl) (by decide) (by kernel_rfl) (by kernel_rfl) (by kernel_rfl) (zeroB_is (z := [.int .i32 0, .int .i16 0, .pointer none, .int .i16 0, .pointer none, .int .i32 0, .int .i32 0, .map none, .slice none 0 0, .slice none 0 0, .map none]) (by kernel_rfl)) rfl rfl (by decide);refine elt_st (m' := 28) (et := 105) (z0 := [.n 0, .n 0, .nil, .n 0, .nil, .l [.n 0, .n 0, .nil], .nil, .nil, .nil]) (bs := 104) ?_ dTopicPartition ?_ (by kernel_rfl) (by decide)
        · skip
          refine Fld.cons (m := 28) (m' := 29) (o' := 1) ?_ ?_ rfl (by decide) (by decide) (by decide)
          · skip
            exact (fld_asg (asg_call mInt32 (by decide)) (by kernel_rfl) (by kernel_rfl) rfl (by decide))
          refine Fld.cons (m := 29) (m' := 30) (o' := 2) ?_ ?_ rfl (by decide) (by decide) (by decide)
          · skip
            exact (fld_asg (asg_call mInt16 (by decide)) (by kernel_rfl) (by kernel_rfl) rfl (by decide))
          refine Fld.cons (m := 30) (m' := 31) (o' := 3) ?_ ?_ rfl (by decide) (by decide) (by decide)
          · skip
            exact (fld_var (fld_asg (asg_flex (u := 9) (asg_uns (asg_call mUnsafeCompactNullableString (by decide)) (asg_call mCompactNullableString (by decide)) (by decide)) (asg_uns (asg_call mUnsafeNullableString (by decide)) (asg_call mNullableString (by decide)) (by decide)) rfl (by decide)) (by kernel_rfl) (by kernel_rfl) rfl (by decide)) (by decide))
          refine Fld.cons (m := 31) (m' := 32) (o' := 4) ?_ ?_ rfl (by decide) (by decide) (by decide)
          · skip
            exact (fld_asg (asg_call mInt16 (by decide)) (by kernel_rfl) (by kernel_rfl) rfl (by decide))
          refine Fld.cons (m := 32) (m' := 33) (o' := 5) ?_ ?_ rfl (by decide) (by decide) (by decide)
          · skip
            exact (fld_var (fld_asg (asg_flex (u := 9) (asg_uns (asg_call mUnsafeCompactNullableString (by decide)) (asg_call mCompactNullableString (by decide)) (by decide)) (asg_uns (asg_call mUnsafeNullableString (by decide)) (asg_call mNullableString (by decide)) (by decide)) rfl (by decide)) (by kernel_rfl) (by kernel_rfl) rfl (by decide)) (by decide))
          refine Fld.cons (m := 33) (m' := 37) (o' := 8) ?_ ?_ rfl (by decide) (by decide) (by decide)
          · skip
            refine fld_st (m' := 35) (z0 := [.n 0, .n 0, .nil]) ?_ dTopicPartitionCurrentLeader (by kernel_rfl) (by decide);refine Fld.cons (m := 35) (m' := 36) (o' := 1) ?_ ?_ rfl (by decide) (by decide) (by decide)
            · skip
              exact (fld_asg (asg_call mInt32 (by decide)) (by kernel_rfl) (by kernel_rfl) rfl (by decide))
            refine Fld.cons (m := 36) (m' := 214) (o' := 2) ?_ ?_ rfl (by decide) (by decide) (by decide)
            · skip
              exact (fld_asg (asg_call mInt32 (by decide)) (by kernel_rfl) (by kernel_rfl) rfl (by decide))
            refine Fld.one ?_;exact (fld_tags (tf := 9) mTags (fBi (by kernel_rfl)) (by kernel_rfl) rfl (by decide))
          refine Fld.cons (m := 37) (m' := 38) (o' := 9) ?_ ?_ rfl (by decide) (by decide) (by decide)
          · skip
            exact (fld_var (fld_asg (asg_flex (u := 9) (asg_call mCompactNullableBytes (by decide)) (asg_call mNullableBytes (by decide)) rfl (by decide)) (by kernel_rfl) (by kernel_rfl) rfl (by decide)) (by decide))
          refine Fld.cons (m := 38) (m' := 280) (o' := 10) ?_ ?_ rfl (by decide) (by decide) (by decide)
          · skip
            refine fld_arr (m' := 42) (e0 := 111) (bs := 32) okM completeM (asg_flex (u := 9) (asg_call mCompactArrayLen (by decide)) (asg_call mArrayLen (by decide)) rfl (by decide)) ?_ (by kernel_rfl) (by decide) (by kernel_rfl) (by kernel_rfl) (by kernel_rfl) (zeroB_is (z := [.int .i64 0, .int .i64 0, .int .i16 0, .map none]) (by kernel_rfl)) rfl rfl (by decide);refine elt_st (m' := 44) (et := 111) (z0 := [.n 0, .n 0, .n 0, .nil]) (bs := 32) ?_ dTopicPartitionAcquiredRecord ?_ (by kernel_rfl) (by decide)
            · skip
              refine Fld.cons (m := 44) (m' := 45) (o' := 1) ?_ ?_ rfl (by decide) (by decide) (by decide)
              · skip
                exact (fld_asg (asg_call mInt64 (by decide)) (by kernel_rfl) (by kernel_rfl) rfl (by decide))
              refine Fld.cons (m := 45) (m' := 46) (o' := 2) ?_ ?_ rfl (by decide) (by decide) (by decide)
              · skip
                exact (fld_asg (asg_call mInt64 (by decide)) (by kernel_rfl) (by kernel_rfl) rfl (by decide))
              refine Fld.cons (m := 46) (m' := 270) (o' := 3) ?_ ?_ rfl (by decide) (by decide) (by decide)
              · skip
                exact (fld_asg (asg_call mInt16 (by decide)) (by kernel_rfl) (by kernel_rfl) rfl (by decide))
              refine Fld.one ?_;exact (fld_tags (tf := 9) mTags (fBi (by kernel_rfl)) (by kernel_rfl) rfl (by decide))
            exact fun w => reps_zero tTopicPartitionAcquiredRecord
          refine Fld.one ?_;exact (fld_tags (tf := 9) mTags (fBi (by kernel_rfl)) (by kernel_rfl) rfl (by decide))
        exact fun w => reps_zero tTopicPartition
      refine Fld.one ?_;exact (fld_tags (tf := 9) mTags (fBi (by kernel_rfl)) (by kernel_rfl) rfl (by decide))
    exact fun w => reps_zero tTopic
  refine Run.cons (m := 47) (o' := 7) ?_ ?_ rfl (by decide) (by decide) (isL_cons isL_nil)
  · skip
    refine fld_arr (m' := 51) (e0 := 115) (bs := 48) okM completeM (asg_flex (u := 9) (asg_call mCompactArrayLen (by decide)) (asg_call mArrayLen (by decide)) rfl (by decide)) ?_ (by kernel_rfl) (by decide) (by kernel_rfl) (by kernel_rfl) (by kernel_rfl) (zeroB_is (z := [.int .i32 0, .string ⟨#[]⟩, .int .i32 0, .pointer none, .map none]) (by kernel_rfl)) rfl rfl (by decide);refine elt_st (m' := 53) (et := 115) (z0 := [.n 0, .s [], .n 0, .nil, .nil]) (bs := 48) ?_ dNodeEndpoint ?_ (by kernel_rfl) (by decide)
    · skip
      refine Fld.cons (m := 53) (m' := 54) (o' := 1) ?_ ?_ rfl (by decide) (by decide) (by decide)
      · skip
        exact (fld_asg (asg_call mInt32 (by decide)) (by kernel_rfl) (by kernel_rfl) rfl (by decide))
      refine Fld.cons (m := 54) (m' := 55) (o' := 2) ?_ ?_ rfl (by decide) (by decide) (by decide)
      · skip
        exact (fld_var (fld_asg (asg_uns (asg_flex (u := 9) (asg_call mUnsafeCompactString (by decide)) (asg_call mUnsafeString (by decide)) rfl (by decide)) (asg_flex (u := 9) (asg_call mCompactString (by decide)) (asg_call mString (by decide)) rfl (by decide)) (by decide)) (by kernel_rfl) (by kernel_rfl) rfl (by decide)) (by decide))
      refine Fld.cons (m := 55) (m' := 56) (o' := 3) ?_ ?_ rfl (by decide) (by decide) (by decide)
      · skip
        exact (fld_asg (asg_call mInt32 (by decide)) (by kernel_rfl) (by kernel_rfl) rfl (by decide))
      refine Fld.cons (m := 56) (m' := 361) (o' := 4) ?_ ?_ rfl (by decide) (by decide) (by decide)
      · skip
        exact (fld_var (fld_asg (asg_flex (u := 9) (asg_uns (asg_call mUnsafeCompactNullableString (by decide)) (asg_call mCompactNullableString (by decide)) (by decide)) (asg_uns (asg_call mUnsafeNullableString (by decide)) (asg_call mNullableString (by decide)) (by decide)) rfl (by decide)) (by kernel_rfl) (by kernel_rfl) rfl (by decide)) (by decide))
      refine Fld.one ?_;exact (fld_tags (tf := 9) mTags (fBi (by kernel_rfl)) (by kernel_rfl) rfl (by decide))
    exact fun w => reps_zero tNodeEndpoint
  refine Run.cons (m := 371) (o' := 8) ?_ ?_ rfl (by decide) (by decide) isL_nil
  · skip
    exact (fld_tags (tf := 9) mTags (fBi (by kernel_rfl)) (by kernel_rfl) rfl (by decide))
  exact run_end completeM (by decide)
theorem setM : SetM Tryz.prog 27 := set_m Tryz.func27 (by kernel_rfl) rfl rfl rfl (by kernel_rfl) (by kernel_rfl)
theorem newM : NewM Tryz.prog 22 (.int .i16 :: tR) [.n 0, .n 0, .n 0, .nil, .n 0, .nil, .nil, .nil] := new_m (d := id) Tryz.func22 (by kernel_rfl) rfl rfl rfl (zeroB_is (by kernel_rfl)) dR (by decide)
theorem maxM : MaxM Tryz.prog 7 2 := maxd_m (tys := .int .i16 :: tR) (ds := [.n 0, .n 0, .n 0, .nil, .n 0, .nil, .nil, .nil]) (mx := ((2 : Nat) : Int)) (fmx := 23) (fnw := 22) (f := 7) (P := Tryz.prog) Tryz.func7 (by kernel_rfl) rfl rfl rfl newM (maxv_m Tryz.func23 (by kernel_rfl) rfl rfl rfl) (by decide) (by kernel_rfl) (by kernel_rfl)
theorem rd1 : ReadD Tryz.prog 1 28 tR [.n 0, .n 0, .nil, .n 0, .nil, .nil, .nil] fl gR := read_d rf Tryz.func28 (by kernel_rfl) rfl rfl rfl
theorem door : BehM Tryz.prog 1 11 (behRes gR fl fun ver => apSt ((fun _ => []) :: gaQ ver)) := behind_m (te := 5) Tryz.func11 (by kernel_rfl) rfl rfl rfl (by kernel_rfl) octT (by kernel_rfl) (by kernel_rfl) (by kernel_rfl) newM setM rd1 app
theorem plTopicPartitionCurrentLeader (ver : Int) (hv : 0 ≤ ver) (t : T) (hk : KeysOk t) : InvL gTopicPartitionCurrentLeader ver (decide (ver ≥ 0)) (gaQTopicPartitionCurrentLeader ver) (partW fssQTopicPartitionCurrentLeader ver (decide (ver ≥ 0)) t) := by
  refine inv_part (by kernel_rfl) ?_;refine invb_cons (inv_has (has_all hv (by decide) (by decide)) invf_i32) ?_;refine invb_cons (inv_has (has_all hv (by decide) (by decide)) invf_i32) ?_;exact invb_nil (inv_tagend hk)
theorem plTopicPartitionAcquiredRecord (ver : Int) (hv : 0 ≤ ver) (t : T) (hk : KeysOk t) : InvL gTopicPartitionAcquiredRecord ver (decide (ver ≥ 0)) (gaQTopicPartitionAcquiredRecord ver) (partW fssQTopicPartitionAcquiredRecord ver (decide (ver ≥ 0)) t) := by
  refine inv_part (by kernel_rfl) ?_;refine invb_cons (inv_has (has_all hv (by decide) (by decide)) invf_i64) ?_;refine invb_cons (inv_has (has_all hv (by decide) (by decide)) invf_i64) ?_;refine invb_cons (inv_has (has_all hv (by decide) (by decide)) invf_i16) ?_;exact invb_nil (inv_tagend hk)
theorem poTopicPartitionAcquiredRecord (ver : Int) (hv : 0 ≤ ver) (t : T) : 1 ≤ (partW fssQTopicPartitionAcquiredRecord ver (decide (ver ≥ 0)) t).length := part_pos (by kernel_rfl) (body_head (has_all hv (by decide) (by decide)) (fieldW_pos (by decide)))
theorem plTopicPartition (ver : Int) (hv : 0 ≤ ver) (t : T) (hk : KeysOk t) : InvL gTopicPartition ver (decide (ver ≥ 0)) (gaQTopicPartition ver) (partW fssQTopicPartition ver (decide (ver ≥ 0)) t) := by
  refine inv_part (by kernel_rfl) ?_;refine invb_cons (inv_has (has_all hv (by decide) (by decide)) invf_i32) ?_;refine invb_cons (inv_has (has_all hv (by decide) (by decide)) invf_i16) ?_;refine invb_cons (inv_has (has_all hv (by decide) (by decide)) invf_pstr) ?_;refine invb_cons (inv_has (has_all hv (by decide) (by decide)) invf_i16) ?_;refine invb_cons (inv_has (has_all hv (by decide) (by decide)) invf_pstr) ?_;refine invb_cons (inv_has (has_all hv (by decide) (by decide)) (invf_st (by decide) (plTopicPartitionCurrentLeader ver hv _ (KeysOk.at hk.l 5)))) ?_;refine invb_cons (inv_has (has_all hv (by decide) (by decide)) (invf_nbytes)) ?_;refine invb_cons (inv_has (has_all hv (by decide) (by decide)) (invf_arr (by decide) (fun z hz => inv_el (plTopicPartitionAcquiredRecord ver hv z ((KeysOk.at hk.l 7).l z hz))) (fun z => value_pos10 (poTopicPartitionAcquiredRecord ver hv z)))) ?_;exact invb_nil (inv_tagend hk)
theorem poTopicPartition (ver : Int) (hv : 0 ≤ ver) (t : T) : 1 ≤ (partW fssQTopicPartition ver (decide (ver ≥ 0)) t).length := part_pos (by kernel_rfl) (body_head (has_all hv (by decide) (by decide)) (fieldW_pos (by decide)))
theorem plTopic (ver : Int) (hv : 0 ≤ ver) (t : T) (hk : KeysOk t) : InvL gTopic ver (decide (ver ≥ 0)) (gaQTopic ver) (partW fssQTopic ver (decide (ver ≥ 0)) t) := by
  refine inv_part (by kernel_rfl) ?_;refine invb_cons (inv_has (has_all hv (by decide) (by decide)) invf_uuid) ?_;refine invb_cons (inv_has (has_all hv (by decide) (by decide)) (invf_arr (by decide) (fun z hz => inv_el (plTopicPartition ver hv z ((KeysOk.at hk.l 1).l z hz))) (fun z => value_pos10 (poTopicPartition ver hv z)))) ?_;exact invb_nil (inv_tagend hk)
theorem poTopic (ver : Int) (hv : 0 ≤ ver) (t : T) : 1 ≤ (partW fssQTopic ver (decide (ver ≥ 0)) t).length := part_pos (by kernel_rfl) (body_head (has_all hv (by decide) (by decide)) (fieldW_pos (by decide)))
theorem plNodeEndpoint (ver : Int) (hv : 0 ≤ ver) (t : T) (hk : KeysOk t) : InvL gNodeEndpoint ver (decide (ver ≥ 0)) (gaQNodeEndpoint ver) (partW fssQNodeEndpoint ver (decide (ver ≥ 0)) t) := by
  refine inv_part (by kernel_rfl) ?_;refine invb_cons (inv_has (has_all hv (by decide) (by decide)) invf_i32) ?_;refine invb_cons (inv_has (has_all hv (by decide) (by decide)) (invf_str (by decide))) ?_;refine invb_cons (inv_has (has_all hv (by decide) (by decide)) invf_i32) ?_;refine invb_cons (inv_has (has_all hv (by decide) (by decide)) invf_pstr) ?_;exact invb_nil (inv_tagend hk)
theorem poNodeEndpoint (ver : Int) (hv : 0 ≤ ver) (t : T) : 1 ≤ (partW fssQNodeEndpoint ver (decide (ver ≥ 0)) t).length := part_pos (by kernel_rfl) (body_head (has_all hv (by decide) (by decide)) (fieldW_pos (by decide)))
theorem plR (ver : Int) (hv : 0 ≤ ver) (t : T) (hk : KeysOk t) : InvL gR ver (decide (ver ≥ 0)) (gaQ ver) (partW fsQ ver (decide (ver ≥ 0)) t) := by
  refine inv_part (by kernel_rfl) ?_;refine invb_cons (inv_has (has_all hv (by decide) (by decide)) invf_i32) ?_;refine invb_cons (inv_has (has_all hv (by decide) (by decide)) invf_i16) ?_;refine invb_cons (inv_has (has_all hv (by decide) (by decide)) invf_pstr) ?_;refine invb_cons (inv_gate (p := fun v => decide (v ≥ 1)) (has_ge (by decide)) invf_i32) ?_;refine invb_cons (inv_has (has_all hv (by decide) (by decide)) (invf_arr (by decide) (fun z hz => inv_el (plTopic ver hv z ((KeysOk.at hk.l 4).l z hz))) (fun z => value_pos10 (poTopic ver hv z)))) ?_;refine invb_cons (inv_has (has_all hv (by decide) (by decide)) (invf_arr (by decide) (fun z hz => inv_el (plNodeEndpoint ver hv z ((KeysOk.at hk.l 5).l z hz))) (fun z => value_pos10 (poNodeEndpoint ver hv z)))) ?_;exact invb_nil (inv_tagend hk)
def small (t : T) : Prop := KeysOk t ∧ ∀ ver flex, (partW fsQ ver flex t).length ≤ 2147483648
theorem law : LawB Tryz.prog 1 3 small := by
  refine lawb_m (te := 5) (mx := 2) (fs := fsQ) (enc := partW fsQ) Tryz.func3 (by kernel_rfl) rfl rfl rfl (by kernel_rfl) octT (by kernel_rfl) (fBi (by kernel_rfl)) (fBi (by kernel_rfl)) wFit maxM (by decide) ifsQ verM (wWrite fsQ (by decide)) door sameM ?_;rintro ver h0 h1 t ⟨hk, hs⟩;refine ⟨hs _ _, ?_⟩;rw [show (decide ((0 : Int) ≥ 0) && decide (ver ≥ 0)) = fl ver from by simp [fl]];exact beh_plain (plR ver h0 t hk)
end Go.Proofs.YtokkeelmccdcaaaGreatDoor.ShareFetchResponse
