/- The parts of the law on OffsetCommitRequest. Printed by gen_msg.py. -/
import Derived.Test.YtfapegflnipofaaGreatDoorPOffsetCommitRequest
import Derived.Test.YtfapegflnipofaaGreatDoorCOffsetCommitRequest
import Derived.Test.YtfapegflnipofaaGreatDoorKqP06
set_option linter.unusedVariables false
set_option linter.unusedSimpArgs false
namespace Go.Proofs.YtfapegflnipofaaGreatDoor.OffsetCommitRequest
open Go.Kq
def tTopicPartition : List Ty := [.int .i32, .int .i64, .int .i64, .int .i32, .pstr, .tags]
def gTopicPartition : Rd := (rdCons (rdOne fun _ _ => gNum .i32 4) (rdCons (rdOne fun _ _ => gNum .i64 8) (rdCons (rdIf (fun v => decide (v ≥ 1) && decide (v ≤ 1)) (.n (-1)) (rdOne fun _ _ => gNum .i64 8)) (rdCons (rdIf (fun v => decide (v ≥ 6)) (.n (-1)) (rdOne fun _ _ => gNum .i32 4)) (rdCons (rdOne fun _ fl st => if fl then gCNStr st else gNStr st) (rdCons rdTagsF rdSt0))))))
theorem dTopicPartition : DefM Tryz.prog 143 (tTopicPartition) (fun xs => ((xs.set 2 (.n (-1))).set 3 (.n (-1)))) := def_sets (N := 8) Tryz.func143 (by kernel_rfl) rfl rfl (by decide) rfl (DRun.cons (DRun.one (i := 2) (ty := .int .i64) (x := .n (-1)) (by kernel_rfl) (by kernel_rfl) rfl rfl rfl rfl (fun w => ⟨_, rfl, rfl, by decide, by decide⟩) (by decide)) (DRun.one (i := 3) (ty := .int .i32) (x := .n (-1)) (by kernel_rfl) (by kernel_rfl) rfl rfl rfl rfl (fun w => ⟨_, rfl, rfl, by decide, by decide⟩) (by decide)))
def tTopic : List Ty := [.str, .uuid, .arr (.st tTopicPartition), .tags]
def gTopic : Rd := (rdCons (rdIf (fun v => decide (v ≥ 0) && decide (v ≤ 9)) (.s []) (rdOne fun _ fl st => if fl then gCStr st else gStr st)) (rdCons (rdIf (fun v => decide (v ≥ 10)) (.s uuid0) (rdOne fun _ _ => gUuid)) (rdCons (rdArr (fun _ fl st => if fl then gCALen st else gALen st) gTopicPartition) (rdCons rdTagsF rdSt0))))
theorem dTopic : DefM Tryz.prog 141 (tTopic) id := def_skip Tryz.func141 (by kernel_rfl) (by kernel_rfl) (by kernel_rfl)
def tR : List Ty := [.str, .int .i32, .str, .pstr, .int .i64, .arr (.st tTopic), .tags]
def gR : Rd := (rdCons (rdOne fun _ fl st => if fl then gCStr st else gStr st) (rdCons (rdIf (fun v => decide (v ≥ 1)) (.n (-1)) (rdOne fun _ _ => gNum .i32 4)) (rdCons (rdIf (fun v => decide (v ≥ 1)) (.s []) (rdOne fun _ fl st => if fl then gCStr st else gStr st)) (rdCons (rdIf (fun v => decide (v ≥ 7)) (.nil) (rdOne fun _ fl st => if fl then gCNStr st else gNStr st)) (rdCons (rdIf (fun v => decide (v ≥ 2) && decide (v ≤ 4)) (.n (-1)) (rdOne fun _ _ => gNum .i64 8)) (rdCons (rdArr (fun _ fl st => if fl then gCALen st else gALen st) gTopic) (rdCons rdTagsF rdSt0)))))))
theorem dR : DefM Tryz.prog 94 (.int .i16 :: tR) (fun xs => ((xs.set 2 (.n (-1))).set 5 (.n (-1)))) := def_sets (N := 8) Tryz.func94 (by kernel_rfl) rfl rfl (by decide) rfl (DRun.cons (DRun.one (i := 2) (ty := .int .i32) (x := .n (-1)) (by kernel_rfl) (by kernel_rfl) rfl rfl rfl rfl (fun w => ⟨_, rfl, rfl, by decide, by decide⟩) (by decide)) (DRun.one (i := 5) (ty := .int .i64) (x := .n (-1)) (by kernel_rfl) (by kernel_rfl) rfl rfl rfl rfl (fun w => ⟨_, rfl, rfl, by decide, by decide⟩) (by decide)))
def fl : Int → Bool := fun v => decide (v ≥ 8)
set_option maxRecDepth 20000 in
theorem rf : ReadM Tryz.prog 1 96 tR [.s [], .n (-1), .s [], .nil, .n (-1), .nil, .nil] fl gR := by
  refine root Tryz.func96 (by kernel_rfl) rfl rfl rfl ?_ dR (fun _ => rfl) readerT (by kernel_rfl) (by kernel_rfl) (isL_cons (isL_cons (isL_cons (isL_cons (isL_cons (isL_cons (isL_cons isL_nil))))))) (by decide)
  refine bdy_fl ?_ (by decide)
  refine Run.cons (m := 11) (o' := 2) ?_ ?_ rfl (by decide) (by decide) (isL_cons (isL_cons (isL_cons (isL_cons (isL_cons (isL_cons isL_nil))))))
  · skip
    exact (fld_var (fld_asg (asg_uns (asg_flex (u := 9) (asg_call mUnsafeCompactString (by decide)) (asg_call mUnsafeString (by decide)) rfl (by decide)) (asg_flex (u := 9) (asg_call mCompactString (by decide)) (asg_call mString (by decide)) rfl (by decide)) (by decide)) (by kernel_rfl) (by kernel_rfl) rfl (by decide)) (by decide))
  refine Run.cons (m := 12) (o' := 3) ?_ ?_ rfl (by decide) (by decide) (isL_cons (isL_cons (isL_cons (isL_cons (isL_cons isL_nil)))))
  · skip
    exact (fld_if (fld_asg (asg_call mInt32 (by decide)) (by kernel_rfl) (by kernel_rfl) rfl (by decide)) (fun i => rfl) (by decide))
  refine Run.cons (m := 13) (o' := 4) ?_ ?_ rfl (by decide) (by decide) (isL_cons (isL_cons (isL_cons (isL_cons isL_nil))))
  · skip
    exact (fld_if (fld_var (fld_asg (asg_uns (asg_flex (u := 9) (asg_call mUnsafeCompactString (by decide)) (asg_call mUnsafeString (by decide)) rfl (by decide)) (asg_flex (u := 9) (asg_call mCompactString (by decide)) (asg_call mString (by decide)) rfl (by decide)) (by decide)) (by kernel_rfl) (by kernel_rfl) rfl (by decide)) (by decide)) (fun i => rfl) (by decide))
  refine Run.cons (m := 14) (o' := 5) ?_ ?_ rfl (by decide) (by decide) (isL_cons (isL_cons (isL_cons isL_nil)))
  · skip
    exact (fld_if (fld_var (fld_asg (asg_flex (u := 9) (asg_uns (asg_call mUnsafeCompactNullableString (by decide)) (asg_call mCompactNullableString (by decide)) (by decide)) (asg_uns (asg_call mUnsafeNullableString (by decide)) (asg_call mNullableString (by decide)) (by decide)) rfl (by decide)) (by kernel_rfl) (by kernel_rfl) rfl (by decide)) (by decide)) (fun i => rfl) (by decide))
  refine Run.cons (m := 15) (o' := 6) ?_ ?_ rfl (by decide) (by decide) (isL_cons (isL_cons isL_nil))
  · skip
    exact (fld_if2 (fld_asg (asg_call mInt64 (by decide)) (by kernel_rfl) (by kernel_rfl) rfl (by decide)) (by decide))
  refine Run.cons (m := 16) (o' := 7) ?_ ?_ rfl (by decide) (by decide) (isL_cons isL_nil)
  · skip
    refine fld_arr (m' := 20) (e0 := 113) (bs := 64) okM completeM (asg_flex (u := 9) (asg_call mCompactArrayLen (by decide)) (asg_call mArrayLen (by decide)) rfl (by decide)) ?_ (by kernel_rfl) (by decide) (by kernel_rfl) (by kernel_rfl) (by kernel_rfl) (zeroB_is (z := [.string ⟨#[]⟩, .int .u8 0, .int .u8 0, .int .u8 0, .int .u8 0, .int .u8 0, .int .u8 0, .int .u8 0, .int .u8 0, .int .u8 0, .int .u8 0, .int .u8 0, .int .u8 0, .int .u8 0, .int .u8 0, .int .u8 0, .int .u8 0, .slice none 0 0, .map none]) (by kernel_rfl)) rfl rfl (by decide)
    refine elt_st (m' := 22) (et := 113) (z0 := [.s [], .s uuid0, .nil, .nil]) (bs := 64) ?_ dTopic ?_ (by kernel_rfl) (by decide)
    · skip
      refine Fld.cons (m := 22) (m' := 23) (o' := 1) ?_ ?_ rfl (by decide) (by decide) (by decide)
      · skip
        exact (fld_if2 (fld_var (fld_asg (asg_uns (asg_flex (u := 9) (asg_call mUnsafeCompactString (by decide)) (asg_call mUnsafeString (by decide)) rfl (by decide)) (asg_flex (u := 9) (asg_call mCompactString (by decide)) (asg_call mString (by decide)) rfl (by decide)) (by decide)) (by kernel_rfl) (by kernel_rfl) rfl (by decide)) (by decide)) (by decide))
      refine Fld.cons (m := 23) (m' := 24) (o' := 17) ?_ ?_ rfl (by decide) (by decide) (by decide)
      · skip
        exact (fld_if (fld_uuid mUuid uuidT (by kernel_rfl) (by decide)) (fun i => rfl) (by decide))
      refine Fld.cons (m := 24) (m' := 234) (o' := 18) ?_ ?_ rfl (by decide) (by decide) (by decide)
      · skip
        refine fld_arr (m' := 28) (e0 := 117) (bs := 48) okM completeM (asg_flex (u := 9) (asg_call mCompactArrayLen (by decide)) (asg_call mArrayLen (by decide)) rfl (by decide)) ?_ (by kernel_rfl) (by decide) (by kernel_rfl) (by kernel_rfl) (by kernel_rfl) (zeroB_is (z := [.int .i32 0, .int .i64 0, .int .i64 0, .int .i32 0, .pointer none, .map none]) (by kernel_rfl)) rfl rfl (by decide)
        refine elt_st (m' := 30) (et := 117) (z0 := [.n 0, .n 0, .n 0, .n 0, .nil, .nil]) (bs := 48) ?_ dTopicPartition ?_ (by kernel_rfl) (by decide)
        · skip
          refine Fld.cons (m := 30) (m' := 31) (o' := 1) ?_ ?_ rfl (by decide) (by decide) (by decide)
          · skip
            exact (fld_asg (asg_call mInt32 (by decide)) (by kernel_rfl) (by kernel_rfl) rfl (by decide))
          refine Fld.cons (m := 31) (m' := 32) (o' := 2) ?_ ?_ rfl (by decide) (by decide) (by decide)
          · skip
            exact (fld_asg (asg_call mInt64 (by decide)) (by kernel_rfl) (by kernel_rfl) rfl (by decide))
          refine Fld.cons (m := 32) (m' := 33) (o' := 3) ?_ ?_ rfl (by decide) (by decide) (by decide)
          · skip
            exact (fld_if2 (fld_asg (asg_call mInt64 (by decide)) (by kernel_rfl) (by kernel_rfl) rfl (by decide)) (by decide))
          refine Fld.cons (m := 33) (m' := 34) (o' := 4) ?_ ?_ rfl (by decide) (by decide) (by decide)
          · skip
            exact (fld_if (fld_asg (asg_call mInt32 (by decide)) (by kernel_rfl) (by kernel_rfl) rfl (by decide)) (fun i => rfl) (by decide))
          refine Fld.cons (m := 34) (m' := 224) (o' := 5) ?_ ?_ rfl (by decide) (by decide) (by decide)
          · skip
            exact (fld_var (fld_asg (asg_flex (u := 9) (asg_uns (asg_call mUnsafeCompactNullableString (by decide)) (asg_call mCompactNullableString (by decide)) (by decide)) (asg_uns (asg_call mUnsafeNullableString (by decide)) (asg_call mNullableString (by decide)) (by decide)) rfl (by decide)) (by kernel_rfl) (by kernel_rfl) rfl (by decide)) (by decide))
          refine Fld.one ?_
          exact (fld_tags (tf := 9) mTags (flatB_is (by kernel_rfl)) (by kernel_rfl) rfl (by decide))
        · exact fun w => reps_zero tTopicPartition
      refine Fld.one ?_
      exact (fld_tags (tf := 9) mTags (flatB_is (by kernel_rfl)) (by kernel_rfl) rfl (by decide))
    · exact fun w => reps_zero tTopic
  refine Run.cons (m := 244) (o' := 8) ?_ ?_ rfl (by decide) (by decide) isL_nil
  · skip
    exact (fld_tags (tf := 9) mTags (flatB_is (by kernel_rfl)) (by kernel_rfl) rfl (by decide))
  exact run_end completeM (by decide)
theorem setM : SetM Tryz.prog 48 := set_m Tryz.func48 (by kernel_rfl) rfl rfl rfl (by kernel_rfl) (by kernel_rfl)
theorem newM : NewM Tryz.prog 45 (.int .i16 :: tR) [.n 0, .s [], .n (-1), .s [], .nil, .n (-1), .nil, .nil] := new_m (d := (fun xs => ((xs.set 2 (.n (-1))).set 5 (.n (-1))))) Tryz.func45 (by kernel_rfl) rfl rfl rfl (zeroB_is (by kernel_rfl)) dR (by decide)
theorem maxM : MaxM Tryz.prog 19 10 := maxd_m (tys := .int .i16 :: tR) (ds := [.n 0, .s [], .n (-1), .s [], .nil, .n (-1), .nil, .nil]) (mx := ((10 : Nat) : Int)) (fmx := 46) (fnw := 45) (f := 19) (P := Tryz.prog) Tryz.func19 (by kernel_rfl) rfl rfl rfl newM (maxv_m Tryz.func46 (by kernel_rfl) rfl rfl rfl) (by decide) (by kernel_rfl) (by kernel_rfl)
theorem rd1 : ReadD Tryz.prog 1 49 tR [.s [], .n (-1), .s [], .nil, .n (-1), .nil, .nil] fl gR := read_d rf Tryz.func49 (by kernel_rfl) rfl rfl rfl
theorem door : BehM Tryz.prog 1 21 (behRes gR fl fun ver => apSt ((fun _ => []) :: gaOffsetCommitRequest ver)) := behind_m (te := 5) Tryz.func21 (by kernel_rfl) rfl rfl rfl (by kernel_rfl) octT (by kernel_rfl) (by kernel_rfl) (by kernel_rfl) newM setM rd1 app
theorem plTopicPartition (ver : Int) (hv : 0 ≤ ver) (t : T) (hk : KeysOk t) : InvL gTopicPartition ver (decide (ver ≥ 8)) (gaOffsetCommitRequestTopicPartition ver) (partW fssOffsetCommitRequestTopicPartition ver (decide (ver ≥ 8)) t) := by
  refine inv_part (by kernel_rfl) ?_
  refine invb_cons (inv_has (has_all hv (by decide) (by decide)) invf_i32) ?_
  refine invb_cons (inv_has (has_all hv (by decide) (by decide)) invf_i64) ?_
  refine invb_cons (inv_gate (p := fun v => decide (v ≥ 1) && decide (v ≤ 1)) (has_rng (by decide)) invf_i64) ?_
  refine invb_cons (inv_gate (p := fun v => decide (v ≥ 6)) (has_ge (by decide)) invf_i32) ?_
  refine invb_cons (inv_has (has_all hv (by decide) (by decide)) invf_pstr) ?_
  exact invb_nil (inv_tagend hk)
theorem poTopicPartition (ver : Int) (hv : 0 ≤ ver) (t : T) : 1 ≤ (partW fssOffsetCommitRequestTopicPartition ver (decide (ver ≥ 8)) t).length := part_pos (by kernel_rfl) (body_head (has_all hv (by decide) (by decide)) (fieldW_pos (by decide)))
theorem plTopic (ver : Int) (hv : 0 ≤ ver) (t : T) (hk : KeysOk t) : InvL gTopic ver (decide (ver ≥ 8)) (gaOffsetCommitRequestTopic ver) (partW fssOffsetCommitRequestTopic ver (decide (ver ≥ 8)) t) := by
  refine inv_part (by kernel_rfl) ?_
  refine invb_cons (inv_gate (p := fun v => decide (v ≥ 0) && decide (v ≤ 9)) (has_rng (by decide)) (invf_str (by decide))) ?_
  refine invb_cons (inv_gate (p := fun v => decide (v ≥ 10)) (has_ge (by decide)) invf_uuid) ?_
  refine invb_cons (inv_has (has_all hv (by decide) (by decide)) (invf_arr (by decide) (fun z hz => inv_el (plTopicPartition ver hv z ((KeysOk.at hk.l 2).l z hz))) (fun z => value_pos10 (poTopicPartition ver hv z)))) ?_
  exact invb_nil (inv_tagend hk)
theorem poTopic (ver : Int) (hv : 0 ≤ ver) (t : T) : 1 ≤ (partW fssOffsetCommitRequestTopic ver (decide (ver ≥ 8)) t).length := part_pos (by kernel_rfl) (body_tail (body_tail (body_head (has_all hv (by decide) (by decide)) (fieldW_pos (by decide)))))
theorem plR (ver : Int) (hv : 0 ≤ ver) (t : T) (hk : KeysOk t) : InvL gR ver (decide (ver ≥ 8)) (gaOffsetCommitRequest ver) (partW fsOffsetCommitRequest ver (decide (ver ≥ 8)) t) := by
  refine inv_part (by kernel_rfl) ?_
  refine invb_cons (inv_has (has_all hv (by decide) (by decide)) (invf_str (by decide))) ?_
  refine invb_cons (inv_gate (p := fun v => decide (v ≥ 1)) (has_ge (by decide)) invf_i32) ?_
  refine invb_cons (inv_gate (p := fun v => decide (v ≥ 1)) (has_ge (by decide)) (invf_str (by decide))) ?_
  refine invb_cons (inv_gate (p := fun v => decide (v ≥ 7)) (has_ge (by decide)) invf_pstr) ?_
  refine invb_cons (inv_gate (p := fun v => decide (v ≥ 2) && decide (v ≤ 4)) (has_rng (by decide)) invf_i64) ?_
  refine invb_cons (inv_has (has_all hv (by decide) (by decide)) (invf_arr (by decide) (fun z hz => inv_el (plTopic ver hv z ((KeysOk.at hk.l 5).l z hz))) (fun z => value_pos10 (poTopic ver hv z)))) ?_
  exact invb_nil (inv_tagend hk)
def small (t : T) : Prop := KeysOk t ∧ ∀ ver flex, (partW fsOffsetCommitRequest ver flex t).length ≤ 2147483648
theorem law : LawB Tryz.prog 1 5 small := by
  refine lawb_m (te := 5) (mx := 10) (fs := fsOffsetCommitRequest) (enc := partW fsOffsetCommitRequest) Tryz.func5 (by kernel_rfl) rfl rfl rfl (by kernel_rfl) octT (by kernel_rfl) (flatB_is (by kernel_rfl)) (flatB_is (by kernel_rfl)) wFit maxM (by decide) ifsOffsetCommitRequest verM (wWrite fsOffsetCommitRequest (by decide)) door sameM ?_
  rintro ver h0 h1 t ⟨hk, hs⟩
  refine ⟨hs _ _, ?_⟩
  rw [show (decide ((8 : Int) ≥ 0) && decide (ver ≥ 8)) = fl ver from by simp [fl]]
  exact beh_plain (plR ver h0 t hk)
end Go.Proofs.YtfapegflnipofaaGreatDoor.OffsetCommitRequest
