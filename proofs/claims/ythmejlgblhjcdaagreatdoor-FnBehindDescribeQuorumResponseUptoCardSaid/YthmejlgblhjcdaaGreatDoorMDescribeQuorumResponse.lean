/- The parts of the law on DescribeQuorumResponse. Printed by gen_msg.py. -/
import Derived.Test.YthmejlgblhjcdaaGreatDoorPDescribeQuorumResponse
import Derived.Test.YthmejlgblhjcdaaGreatDoorCDescribeQuorumResponse
import Derived.Test.YthmejlgblhjcdaaGreatDoorKqP06
set_option linter.unusedVariables false
set_option linter.unusedSimpArgs false
namespace Go.Proofs.YthmejlgblhjcdaaGreatDoor.DescribeQuorumResponse
open Go.Kq
def tTopicPartitionReplicaState : List Ty := [.int .i32, .uuid, .int .i64, .int .i64, .int .i64, .tags]
def gTopicPartitionReplicaState : Rd := (rdCons (rdOne fun _ _ => gNum .i32 4) (rdCons (rdIf (fun v => decide (v ≥ 2)) (.s uuid0) (rdOne fun _ _ => gUuid)) (rdCons (rdOne fun _ _ => gNum .i64 8) (rdCons (rdIf (fun v => decide (v ≥ 1)) (.n (-1)) (rdOne fun _ _ => gNum .i64 8)) (rdCons (rdIf (fun v => decide (v ≥ 1)) (.n (-1)) (rdOne fun _ _ => gNum .i64 8)) (rdCons rdTagsF rdSt0))))))
theorem dTopicPartitionReplicaState : DefM Tryz.prog 145 (tTopicPartitionReplicaState) (fun xs => ((xs.set 3 (.n (-1))).set 4 (.n (-1)))) := def_sets (N := 8) Tryz.func145 (by kernel_rfl) rfl rfl (by decide) rfl (DRun.cons (DRun.one (i := 3) (ty := .int .i64) (x := .n (-1)) (by kernel_rfl) (by kernel_rfl) rfl rfl rfl rfl (fun w => ⟨_, rfl, rfl, by decide, by decide⟩) (by decide)) (DRun.one (i := 4) (ty := .int .i64) (x := .n (-1)) (by kernel_rfl) (by kernel_rfl) rfl rfl rfl rfl (fun w => ⟨_, rfl, rfl, by decide, by decide⟩) (by decide)))
def tTopicPartition : List Ty := [.int .i32, .int .i16, .pstr, .int .i32, .int .i32, .int .i64, .arr (.st tTopicPartitionReplicaState), .arr (.st tTopicPartitionReplicaState), .tags]
def gTopicPartition : Rd := (rdCons (rdOne fun _ _ => gNum .i32 4) (rdCons (rdOne fun _ _ => gNum .i16 2) (rdCons (rdIf (fun v => decide (v ≥ 2)) (.nil) (rdOne fun _ fl st => if fl then gCNStr st else gNStr st)) (rdCons (rdOne fun _ _ => gNum .i32 4) (rdCons (rdOne fun _ _ => gNum .i32 4) (rdCons (rdOne fun _ _ => gNum .i64 8) (rdCons (rdArr (fun _ fl st => if fl then gCALen st else gALen st) gTopicPartitionReplicaState) (rdCons (rdArr (fun _ fl st => if fl then gCALen st else gALen st) gTopicPartitionReplicaState) (rdCons rdTagsF rdSt0)))))))))
theorem dTopicPartition : DefM Tryz.prog 142 (tTopicPartition) id := def_skip Tryz.func142 (by kernel_rfl) (by kernel_rfl) (by kernel_rfl)
def tTopic : List Ty := [.str, .arr (.st tTopicPartition), .tags]
def gTopic : Rd := (rdCons (rdOne fun _ fl st => if fl then gCStr st else gStr st) (rdCons (rdArr (fun _ fl st => if fl then gCALen st else gALen st) gTopicPartition) (rdCons rdTagsF rdSt0)))
theorem dTopic : DefM Tryz.prog 141 (tTopic) id := def_skip Tryz.func141 (by kernel_rfl) (by kernel_rfl) (by kernel_rfl)
def tNodeListener : List Ty := [.str, .str, .int .u16, .tags]
def gNodeListener : Rd := (rdCons (rdOne fun _ fl st => if fl then gCStr st else gStr st) (rdCons (rdOne fun _ fl st => if fl then gCStr st else gStr st) (rdCons (rdOne fun _ _ => gNum .u16 2) (rdCons rdTagsF rdSt0))))
theorem dNodeListener : DefM Tryz.prog 148 (tNodeListener) id := def_skip Tryz.func148 (by kernel_rfl) (by kernel_rfl) (by kernel_rfl)
def tNode : List Ty := [.int .i32, .arr (.st tNodeListener), .tags]
def gNode : Rd := (rdCons (rdOne fun _ _ => gNum .i32 4) (rdCons (rdArr (fun _ fl st => if fl then gCALen st else gALen st) gNodeListener) (rdCons rdTagsF rdSt0)))
theorem dNode : DefM Tryz.prog 147 (tNode) id := def_skip Tryz.func147 (by kernel_rfl) (by kernel_rfl) (by kernel_rfl)
def tR : List Ty := [.int .i16, .pstr, .arr (.st tTopic), .arr (.st tNode), .tags]
def gR : Rd := (rdCons (rdOne fun _ _ => gNum .i16 2) (rdCons (rdIf (fun v => decide (v ≥ 2)) (.nil) (rdOne fun _ fl st => if fl then gCNStr st else gNStr st)) (rdCons (rdArr (fun _ fl st => if fl then gCALen st else gALen st) gTopic) (rdCons (rdIf (fun v => decide (v ≥ 2)) (.nil) (rdArr (fun _ fl st => if fl then gCALen st else gALen st) gNode)) (rdCons rdTagsF rdSt0)))))
theorem dR : DefM Tryz.prog 88 (.int .i16 :: tR) id := def_skip Tryz.func88 (by kernel_rfl) (by kernel_rfl) (by kernel_rfl)
def fl : Int → Bool := fun v => decide (v ≥ 0)
set_option maxRecDepth 20000 in
theorem rf : ReadM Tryz.prog 0 91 tR [.n 0, .nil, .nil, .nil, .nil] fl gR := by
  refine root Tryz.func91 (by kernel_rfl) rfl rfl rfl ?_ dR (fun _ => rfl) readerT (by kernel_rfl) (by kernel_rfl) (isL_cons (isL_cons (isL_cons (isL_cons (isL_cons isL_nil))))) (by decide)
  refine bdy_fl ?_ (by decide)
  refine Run.cons (m := 11) (o' := 2) ?_ ?_ rfl (by decide) (by decide) (isL_cons (isL_cons (isL_cons (isL_cons isL_nil))))
  · skip
    exact (fld_asg (asg_call mInt16 (by decide)) (by kernel_rfl) (by kernel_rfl) rfl (by decide))
  refine Run.cons (m := 12) (o' := 3) ?_ ?_ rfl (by decide) (by decide) (isL_cons (isL_cons (isL_cons isL_nil)))
  · skip
    exact (fld_if (fld_var (fld_asg (asg_flex (u := 9) (asg_uns (asg_call mUnsafeCompactNullableString (by decide)) (asg_call mCompactNullableString (by decide)) (by decide)) (asg_uns (asg_call mUnsafeNullableString (by decide)) (asg_call mNullableString (by decide)) (by decide)) rfl (by decide)) (by kernel_rfl) (by kernel_rfl) rfl (by decide)) (by decide)) (fun i => rfl) (by decide))
  refine Run.cons (m := 13) (o' := 4) ?_ ?_ rfl (by decide) (by decide) (isL_cons (isL_cons isL_nil))
  · skip
    refine fld_arr (m' := 17) (e0 := 114) (bs := 48) okM completeM (asg_flex (u := 9) (asg_call mCompactArrayLen (by decide)) (asg_call mArrayLen (by decide)) rfl (by decide)) ?_ (by kernel_rfl) (by decide) (by kernel_rfl) (by kernel_rfl) (by kernel_rfl) (zeroB_is (z := [.string ⟨#[]⟩, .slice none 0 0, .map none]) (by kernel_rfl)) rfl rfl (by decide)
    refine elt_st (m' := 19) (et := 114) (z0 := [.s [], .nil, .nil]) (bs := 48) ?_ dTopic ?_ (by kernel_rfl) (by decide)
    · skip
      refine Fld.cons (m := 19) (m' := 20) (o' := 1) ?_ ?_ rfl (by decide) (by decide) (by decide)
      · skip
        exact (fld_var (fld_asg (asg_uns (asg_flex (u := 9) (asg_call mUnsafeCompactString (by decide)) (asg_call mUnsafeString (by decide)) rfl (by decide)) (asg_flex (u := 9) (asg_call mCompactString (by decide)) (asg_call mString (by decide)) rfl (by decide)) (by decide)) (by kernel_rfl) (by kernel_rfl) rfl (by decide)) (by decide))
      refine Fld.cons (m := 20) (m' := 358) (o' := 2) ?_ ?_ rfl (by decide) (by decide) (by decide)
      · skip
        refine fld_arr (m' := 24) (e0 := 118) (bs := 88) okM completeM (asg_flex (u := 9) (asg_call mCompactArrayLen (by decide)) (asg_call mArrayLen (by decide)) rfl (by decide)) ?_ (by kernel_rfl) (by decide) (by kernel_rfl) (by kernel_rfl) (by kernel_rfl) (zeroB_is (z := [.int .i32 0, .int .i16 0, .pointer none, .int .i32 0, .int .i32 0, .int .i64 0, .slice none 0 0, .slice none 0 0, .map none]) (by kernel_rfl)) rfl rfl (by decide)
        refine elt_st (m' := 26) (et := 118) (z0 := [.n 0, .n 0, .nil, .n 0, .n 0, .n 0, .nil, .nil, .nil]) (bs := 88) ?_ dTopicPartition ?_ (by kernel_rfl) (by decide)
        · skip
          refine Fld.cons (m := 26) (m' := 27) (o' := 1) ?_ ?_ rfl (by decide) (by decide) (by decide)
          · skip
            exact (fld_asg (asg_call mInt32 (by decide)) (by kernel_rfl) (by kernel_rfl) rfl (by decide))
          refine Fld.cons (m := 27) (m' := 28) (o' := 2) ?_ ?_ rfl (by decide) (by decide) (by decide)
          · skip
            exact (fld_asg (asg_call mInt16 (by decide)) (by kernel_rfl) (by kernel_rfl) rfl (by decide))
          refine Fld.cons (m := 28) (m' := 29) (o' := 3) ?_ ?_ rfl (by decide) (by decide) (by decide)
          · skip
            exact (fld_if (fld_var (fld_asg (asg_flex (u := 9) (asg_uns (asg_call mUnsafeCompactNullableString (by decide)) (asg_call mCompactNullableString (by decide)) (by decide)) (asg_uns (asg_call mUnsafeNullableString (by decide)) (asg_call mNullableString (by decide)) (by decide)) rfl (by decide)) (by kernel_rfl) (by kernel_rfl) rfl (by decide)) (by decide)) (fun i => rfl) (by decide))
          refine Fld.cons (m := 29) (m' := 30) (o' := 4) ?_ ?_ rfl (by decide) (by decide) (by decide)
          · skip
            exact (fld_asg (asg_call mInt32 (by decide)) (by kernel_rfl) (by kernel_rfl) rfl (by decide))
          refine Fld.cons (m := 30) (m' := 31) (o' := 5) ?_ ?_ rfl (by decide) (by decide) (by decide)
          · skip
            exact (fld_asg (asg_call mInt32 (by decide)) (by kernel_rfl) (by kernel_rfl) rfl (by decide))
          refine Fld.cons (m := 31) (m' := 32) (o' := 6) ?_ ?_ rfl (by decide) (by decide) (by decide)
          · skip
            exact (fld_asg (asg_call mInt64 (by decide)) (by kernel_rfl) (by kernel_rfl) rfl (by decide))
          refine Fld.cons (m := 32) (m' := 43) (o' := 7) ?_ ?_ rfl (by decide) (by decide) (by decide)
          · skip
            refine fld_arr (m' := 36) (e0 := 124) (bs := 56) okM completeM (asg_flex (u := 9) (asg_call mCompactArrayLen (by decide)) (asg_call mArrayLen (by decide)) rfl (by decide)) ?_ (by kernel_rfl) (by decide) (by kernel_rfl) (by kernel_rfl) (by kernel_rfl) (zeroB_is (z := [.int .i32 0, .int .u8 0, .int .u8 0, .int .u8 0, .int .u8 0, .int .u8 0, .int .u8 0, .int .u8 0, .int .u8 0, .int .u8 0, .int .u8 0, .int .u8 0, .int .u8 0, .int .u8 0, .int .u8 0, .int .u8 0, .int .u8 0, .int .i64 0, .int .i64 0, .int .i64 0, .map none]) (by kernel_rfl)) rfl rfl (by decide)
            refine elt_st (m' := 38) (et := 124) (z0 := [.n 0, .s uuid0, .n 0, .n 0, .n 0, .nil]) (bs := 56) ?_ dTopicPartitionReplicaState ?_ (by kernel_rfl) (by decide)
            · skip
              refine Fld.cons (m := 38) (m' := 39) (o' := 1) ?_ ?_ rfl (by decide) (by decide) (by decide)
              · skip
                exact (fld_asg (asg_call mInt32 (by decide)) (by kernel_rfl) (by kernel_rfl) rfl (by decide))
              refine Fld.cons (m := 39) (m' := 40) (o' := 17) ?_ ?_ rfl (by decide) (by decide) (by decide)
              · skip
                exact (fld_if (fld_uuid mUuid uuidT (by kernel_rfl) (by decide)) (fun i => rfl) (by decide))
              refine Fld.cons (m := 40) (m' := 41) (o' := 18) ?_ ?_ rfl (by decide) (by decide) (by decide)
              · skip
                exact (fld_asg (asg_call mInt64 (by decide)) (by kernel_rfl) (by kernel_rfl) rfl (by decide))
              refine Fld.cons (m := 41) (m' := 42) (o' := 19) ?_ ?_ rfl (by decide) (by decide) (by decide)
              · skip
                exact (fld_if (fld_asg (asg_call mInt64 (by decide)) (by kernel_rfl) (by kernel_rfl) rfl (by decide)) (fun i => rfl) (by decide))
              refine Fld.cons (m := 42) (m' := 268) (o' := 20) ?_ ?_ rfl (by decide) (by decide) (by decide)
              · skip
                exact (fld_if (fld_asg (asg_call mInt64 (by decide)) (by kernel_rfl) (by kernel_rfl) rfl (by decide)) (fun i => rfl) (by decide))
              refine Fld.one ?_
              exact (fld_tags (tf := 9) mTags (flatB_is (by kernel_rfl)) (by kernel_rfl) rfl (by decide))
            · exact fun w => reps_zero tTopicPartitionReplicaState
          refine Fld.cons (m := 43) (m' := 348) (o' := 8) ?_ ?_ rfl (by decide) (by decide) (by decide)
          · skip
            refine fld_arr (m' := 47) (e0 := 124) (bs := 56) okM completeM (asg_flex (u := 9) (asg_call mCompactArrayLen (by decide)) (asg_call mArrayLen (by decide)) rfl (by decide)) ?_ (by kernel_rfl) (by decide) (by kernel_rfl) (by kernel_rfl) (by kernel_rfl) (zeroB_is (z := [.int .i32 0, .int .u8 0, .int .u8 0, .int .u8 0, .int .u8 0, .int .u8 0, .int .u8 0, .int .u8 0, .int .u8 0, .int .u8 0, .int .u8 0, .int .u8 0, .int .u8 0, .int .u8 0, .int .u8 0, .int .u8 0, .int .u8 0, .int .i64 0, .int .i64 0, .int .i64 0, .map none]) (by kernel_rfl)) rfl rfl (by decide)
            refine elt_st (m' := 49) (et := 124) (z0 := [.n 0, .s uuid0, .n 0, .n 0, .n 0, .nil]) (bs := 56) ?_ dTopicPartitionReplicaState ?_ (by kernel_rfl) (by decide)
            · skip
              refine Fld.cons (m := 49) (m' := 50) (o' := 1) ?_ ?_ rfl (by decide) (by decide) (by decide)
              · skip
                exact (fld_asg (asg_call mInt32 (by decide)) (by kernel_rfl) (by kernel_rfl) rfl (by decide))
              refine Fld.cons (m := 50) (m' := 51) (o' := 17) ?_ ?_ rfl (by decide) (by decide) (by decide)
              · skip
                exact (fld_if (fld_uuid mUuid uuidT (by kernel_rfl) (by decide)) (fun i => rfl) (by decide))
              refine Fld.cons (m := 51) (m' := 52) (o' := 18) ?_ ?_ rfl (by decide) (by decide) (by decide)
              · skip
                exact (fld_asg (asg_call mInt64 (by decide)) (by kernel_rfl) (by kernel_rfl) rfl (by decide))
              refine Fld.cons (m := 52) (m' := 53) (o' := 19) ?_ ?_ rfl (by decide) (by decide) (by decide)
              · skip
                exact (fld_if (fld_asg (asg_call mInt64 (by decide)) (by kernel_rfl) (by kernel_rfl) rfl (by decide)) (fun i => rfl) (by decide))
              refine Fld.cons (m := 53) (m' := 338) (o' := 20) ?_ ?_ rfl (by decide) (by decide) (by decide)
              · skip
                exact (fld_if (fld_asg (asg_call mInt64 (by decide)) (by kernel_rfl) (by kernel_rfl) rfl (by decide)) (fun i => rfl) (by decide))
              refine Fld.one ?_
              exact (fld_tags (tf := 9) mTags (flatB_is (by kernel_rfl)) (by kernel_rfl) rfl (by decide))
            · exact fun w => reps_zero tTopicPartitionReplicaState
          refine Fld.one ?_
          exact (fld_tags (tf := 9) mTags (flatB_is (by kernel_rfl)) (by kernel_rfl) rfl (by decide))
        · exact fun w => reps_zero tTopicPartition
      refine Fld.one ?_
      exact (fld_tags (tf := 9) mTags (flatB_is (by kernel_rfl)) (by kernel_rfl) rfl (by decide))
    · exact fun w => reps_zero tTopic
  refine Run.cons (m := 54) (o' := 5) ?_ ?_ rfl (by decide) (by decide) (isL_cons isL_nil)
  · skip
    refine fld_if ?_ (fun i => rfl) (by decide)
    refine fld_arr (m' := 58) (e0 := 129) (bs := 40) okM completeM (asg_flex (u := 9) (asg_call mCompactArrayLen (by decide)) (asg_call mArrayLen (by decide)) rfl (by decide)) ?_ (by kernel_rfl) (by decide) (by kernel_rfl) (by kernel_rfl) (by kernel_rfl) (zeroB_is (z := [.int .i32 0, .slice none 0 0, .map none]) (by kernel_rfl)) rfl rfl (by decide)
    refine elt_st (m' := 60) (et := 129) (z0 := [.n 0, .nil, .nil]) (bs := 40) ?_ dNode ?_ (by kernel_rfl) (by decide)
    · skip
      refine Fld.cons (m := 60) (m' := 61) (o' := 1) ?_ ?_ rfl (by decide) (by decide) (by decide)
      · skip
        exact (fld_asg (asg_call mInt32 (by decide)) (by kernel_rfl) (by kernel_rfl) rfl (by decide))
      refine Fld.cons (m := 61) (m' := 470) (o' := 2) ?_ ?_ rfl (by decide) (by decide) (by decide)
      · skip
        refine fld_arr (m' := 65) (e0 := 133) (bs := 48) okM completeM (asg_flex (u := 9) (asg_call mCompactArrayLen (by decide)) (asg_call mArrayLen (by decide)) rfl (by decide)) ?_ (by kernel_rfl) (by decide) (by kernel_rfl) (by kernel_rfl) (by kernel_rfl) (zeroB_is (z := [.string ⟨#[]⟩, .string ⟨#[]⟩, .int .u16 0, .map none]) (by kernel_rfl)) rfl rfl (by decide)
        refine elt_st (m' := 67) (et := 133) (z0 := [.s [], .s [], .n 0, .nil]) (bs := 48) ?_ dNodeListener ?_ (by kernel_rfl) (by decide)
        · skip
          refine Fld.cons (m := 67) (m' := 68) (o' := 1) ?_ ?_ rfl (by decide) (by decide) (by decide)
          · skip
            exact (fld_var (fld_asg (asg_uns (asg_flex (u := 9) (asg_call mUnsafeCompactString (by decide)) (asg_call mUnsafeString (by decide)) rfl (by decide)) (asg_flex (u := 9) (asg_call mCompactString (by decide)) (asg_call mString (by decide)) rfl (by decide)) (by decide)) (by kernel_rfl) (by kernel_rfl) rfl (by decide)) (by decide))
          refine Fld.cons (m := 68) (m' := 69) (o' := 2) ?_ ?_ rfl (by decide) (by decide) (by decide)
          · skip
            exact (fld_var (fld_asg (asg_uns (asg_flex (u := 9) (asg_call mUnsafeCompactString (by decide)) (asg_call mUnsafeString (by decide)) rfl (by decide)) (asg_flex (u := 9) (asg_call mCompactString (by decide)) (asg_call mString (by decide)) rfl (by decide)) (by decide)) (by kernel_rfl) (by kernel_rfl) rfl (by decide)) (by decide))
          refine Fld.cons (m := 69) (m' := 460) (o' := 3) ?_ ?_ rfl (by decide) (by decide) (by decide)
          · skip
            exact (fld_asg (asg_call mUint16 (by decide)) (by kernel_rfl) (by kernel_rfl) rfl (by decide))
          refine Fld.one ?_
          exact (fld_tags (tf := 9) mTags (flatB_is (by kernel_rfl)) (by kernel_rfl) rfl (by decide))
        · exact fun w => reps_zero tNodeListener
      refine Fld.one ?_
      exact (fld_tags (tf := 9) mTags (flatB_is (by kernel_rfl)) (by kernel_rfl) rfl (by decide))
    · exact fun w => reps_zero tNode
  refine Run.cons (m := 480) (o' := 6) ?_ ?_ rfl (by decide) (by decide) isL_nil
  · skip
    exact (fld_tags (tf := 9) mTags (flatB_is (by kernel_rfl)) (by kernel_rfl) rfl (by decide))
  exact run_end completeM (by decide)
theorem setM : SetM Tryz.prog 42 := set_m Tryz.func42 (by kernel_rfl) rfl rfl rfl (by kernel_rfl) (by kernel_rfl)
theorem newM : NewM Tryz.prog 38 (.int .i16 :: tR) [.n 0, .n 0, .nil, .nil, .nil, .nil] := new_m (d := id) Tryz.func38 (by kernel_rfl) rfl rfl rfl (zeroB_is (by kernel_rfl)) dR (by decide)
theorem maxM : MaxM Tryz.prog 15 2 := maxd_m (tys := .int .i16 :: tR) (ds := [.n 0, .n 0, .nil, .nil, .nil, .nil]) (mx := ((2 : Nat) : Int)) (fmx := 39) (fnw := 38) (f := 15) (P := Tryz.prog) Tryz.func15 (by kernel_rfl) rfl rfl rfl newM (maxv_m Tryz.func39 (by kernel_rfl) rfl rfl rfl) (by decide) (by kernel_rfl) (by kernel_rfl)
theorem rd1 : ReadD Tryz.prog 0 43 tR [.n 0, .nil, .nil, .nil, .nil] fl gR := read_d rf Tryz.func43 (by kernel_rfl) rfl rfl rfl
theorem door : BehM Tryz.prog 0 17 (behRes gR fl fun ver => apSt ((fun _ => []) :: gaQ ver)) := behind_m (te := 5) Tryz.func17 (by kernel_rfl) rfl rfl rfl (by kernel_rfl) octT (by kernel_rfl) (by kernel_rfl) (by kernel_rfl) newM setM rd1 app
theorem plTopicPartitionReplicaState (ver : Int) (hv : 0 ≤ ver) (t : T) (hk : KeysOk t) : InvL gTopicPartitionReplicaState ver (decide (ver ≥ 0)) (gaQTopicPartitionReplicaState ver) (partW fssQTopicPartitionReplicaState ver (decide (ver ≥ 0)) t) := by
  refine inv_part (by kernel_rfl) ?_
  refine invb_cons (inv_has (has_all hv (by decide) (by decide)) invf_i32) ?_
  refine invb_cons (inv_gate (p := fun v => decide (v ≥ 2)) (has_ge (by decide)) invf_uuid) ?_
  refine invb_cons (inv_has (has_all hv (by decide) (by decide)) invf_i64) ?_
  refine invb_cons (inv_gate (p := fun v => decide (v ≥ 1)) (has_ge (by decide)) invf_i64) ?_
  refine invb_cons (inv_gate (p := fun v => decide (v ≥ 1)) (has_ge (by decide)) invf_i64) ?_
  exact invb_nil (inv_tagend hk)
theorem poTopicPartitionReplicaState (ver : Int) (hv : 0 ≤ ver) (t : T) : 1 ≤ (partW fssQTopicPartitionReplicaState ver (decide (ver ≥ 0)) t).length := part_pos (by kernel_rfl) (body_head (has_all hv (by decide) (by decide)) (fieldW_pos (by decide)))
theorem plTopicPartition (ver : Int) (hv : 0 ≤ ver) (t : T) (hk : KeysOk t) : InvL gTopicPartition ver (decide (ver ≥ 0)) (gaQTopicPartition ver) (partW fssQTopicPartition ver (decide (ver ≥ 0)) t) := by
  refine inv_part (by kernel_rfl) ?_
  refine invb_cons (inv_has (has_all hv (by decide) (by decide)) invf_i32) ?_
  refine invb_cons (inv_has (has_all hv (by decide) (by decide)) invf_i16) ?_
  refine invb_cons (inv_gate (p := fun v => decide (v ≥ 2)) (has_ge (by decide)) invf_pstr) ?_
  refine invb_cons (inv_has (has_all hv (by decide) (by decide)) invf_i32) ?_
  refine invb_cons (inv_has (has_all hv (by decide) (by decide)) invf_i32) ?_
  refine invb_cons (inv_has (has_all hv (by decide) (by decide)) invf_i64) ?_
  refine invb_cons (inv_has (has_all hv (by decide) (by decide)) (invf_arr (by decide) (fun z hz => inv_el (plTopicPartitionReplicaState ver hv z ((KeysOk.at hk.l 6).l z hz))) (fun z => value_pos10 (poTopicPartitionReplicaState ver hv z)))) ?_
  refine invb_cons (inv_has (has_all hv (by decide) (by decide)) (invf_arr (by decide) (fun z hz => inv_el (plTopicPartitionReplicaState ver hv z ((KeysOk.at hk.l 7).l z hz))) (fun z => value_pos10 (poTopicPartitionReplicaState ver hv z)))) ?_
  exact invb_nil (inv_tagend hk)
theorem poTopicPartition (ver : Int) (hv : 0 ≤ ver) (t : T) : 1 ≤ (partW fssQTopicPartition ver (decide (ver ≥ 0)) t).length := part_pos (by kernel_rfl) (body_head (has_all hv (by decide) (by decide)) (fieldW_pos (by decide)))
theorem plTopic (ver : Int) (hv : 0 ≤ ver) (t : T) (hk : KeysOk t) : InvL gTopic ver (decide (ver ≥ 0)) (gaQTopic ver) (partW fssQTopic ver (decide (ver ≥ 0)) t) := by
  refine inv_part (by kernel_rfl) ?_
  refine invb_cons (inv_has (has_all hv (by decide) (by decide)) (invf_str (by decide))) ?_
  refine invb_cons (inv_has (has_all hv (by decide) (by decide)) (invf_arr (by decide) (fun z hz => inv_el (plTopicPartition ver hv z ((KeysOk.at hk.l 1).l z hz))) (fun z => value_pos10 (poTopicPartition ver hv z)))) ?_
  exact invb_nil (inv_tagend hk)
theorem poTopic (ver : Int) (hv : 0 ≤ ver) (t : T) : 1 ≤ (partW fssQTopic ver (decide (ver ≥ 0)) t).length := part_pos (by kernel_rfl) (body_head (has_all hv (by decide) (by decide)) (fieldW_pos (by decide)))
theorem plNodeListener (ver : Int) (hv : 0 ≤ ver) (t : T) (hk : KeysOk t) : InvL gNodeListener ver (decide (ver ≥ 0)) (gaQNodeListener ver) (partW fssQNodeListener ver (decide (ver ≥ 0)) t) := by
  refine inv_part (by kernel_rfl) ?_
  refine invb_cons (inv_has (has_all hv (by decide) (by decide)) (invf_str (by decide))) ?_
  refine invb_cons (inv_has (has_all hv (by decide) (by decide)) (invf_str (by decide))) ?_
  refine invb_cons (inv_has (has_all hv (by decide) (by decide)) invf_u16) ?_
  exact invb_nil (inv_tagend hk)
theorem poNodeListener (ver : Int) (hv : 0 ≤ ver) (t : T) : 1 ≤ (partW fssQNodeListener ver (decide (ver ≥ 0)) t).length := part_pos (by kernel_rfl) (body_head (has_all hv (by decide) (by decide)) (fieldW_pos (by decide)))
theorem plNode (ver : Int) (hv : 0 ≤ ver) (t : T) (hk : KeysOk t) : InvL gNode ver (decide (ver ≥ 0)) (gaQNode ver) (partW fssQNode ver (decide (ver ≥ 0)) t) := by
  refine inv_part (by kernel_rfl) ?_
  refine invb_cons (inv_has (has_all hv (by decide) (by decide)) invf_i32) ?_
  refine invb_cons (inv_has (has_all hv (by decide) (by decide)) (invf_arr (by decide) (fun z hz => inv_el (plNodeListener ver hv z ((KeysOk.at hk.l 1).l z hz))) (fun z => value_pos10 (poNodeListener ver hv z)))) ?_
  exact invb_nil (inv_tagend hk)
theorem poNode (ver : Int) (hv : 0 ≤ ver) (t : T) : 1 ≤ (partW fssQNode ver (decide (ver ≥ 0)) t).length := part_pos (by kernel_rfl) (body_head (has_all hv (by decide) (by decide)) (fieldW_pos (by decide)))
theorem plR (ver : Int) (hv : 0 ≤ ver) (t : T) (hk : KeysOk t) : InvL gR ver (decide (ver ≥ 0)) (gaQ ver) (partW fsQ ver (decide (ver ≥ 0)) t) := by
  refine inv_part (by kernel_rfl) ?_
  refine invb_cons (inv_has (has_all hv (by decide) (by decide)) invf_i16) ?_
  refine invb_cons (inv_gate (p := fun v => decide (v ≥ 2)) (has_ge (by decide)) invf_pstr) ?_
  refine invb_cons (inv_has (has_all hv (by decide) (by decide)) (invf_arr (by decide) (fun z hz => inv_el (plTopic ver hv z ((KeysOk.at hk.l 2).l z hz))) (fun z => value_pos10 (poTopic ver hv z)))) ?_
  refine invb_cons (inv_gate (p := fun v => decide (v ≥ 2)) (has_ge (by decide)) (invf_arr (by decide) (fun z hz => inv_el (plNode ver hv z ((KeysOk.at hk.l 3).l z hz))) (fun z => value_pos10 (poNode ver hv z)))) ?_
  exact invb_nil (inv_tagend hk)
def small (t : T) : Prop := KeysOk t ∧ ∀ ver flex, (partW fsQ ver flex t).length ≤ 2147483648
theorem law : LawB Tryz.prog 0 4 small := by
  refine lawb_m (te := 5) (mx := 2) (fs := fsQ) (enc := partW fsQ) Tryz.func4 (by kernel_rfl) rfl rfl rfl (by kernel_rfl) octT (by kernel_rfl) (flatB_is (by kernel_rfl)) (flatB_is (by kernel_rfl)) wFit maxM (by decide) ifsQ verM (wWrite fsQ (by decide)) door sameM ?_
  rintro ver h0 h1 t ⟨hk, hs⟩
  refine ⟨hs _ _, ?_⟩
  rw [show (decide ((0 : Int) ≥ 0) && decide (ver ≥ 0)) = fl ver from by simp [fl]]
  exact beh_plain (plR ver h0 t hk)
end Go.Proofs.YthmejlgblhjcdaaGreatDoor.DescribeQuorumResponse
