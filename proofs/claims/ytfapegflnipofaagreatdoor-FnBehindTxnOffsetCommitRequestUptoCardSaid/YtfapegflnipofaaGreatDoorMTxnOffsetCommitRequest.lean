/- The parts of the law on TxnOffsetCommitRequest. Printed by gen_msg.py. -/
import Derived.Test.YtfapegflnipofaaGreatDoorPTxnOffsetCommitRequest
import Derived.Test.YtfapegflnipofaaGreatDoorCTxnOffsetCommitRequest
import Derived.Test.YtfapegflnipofaaGreatDoorKqP06
set_option linter.unusedVariables false
set_option linter.unusedSimpArgs false
namespace Go.Proofs.YtfapegflnipofaaGreatDoor.TxnOffsetCommitRequest
open Go.Kq
def tTopicPartition : List Ty := [.int .i32, .int .i64, .int .i32, .pstr, .tags]
def gTopicPartition : Rd := (rdCons (rdOne fun _ _ => gNum .i32 4) (rdCons (rdOne fun _ _ => gNum .i64 8) (rdCons (rdIf (fun v => decide (v ≥ 2)) (.n (-1)) (rdOne fun _ _ => gNum .i32 4)) (rdCons (rdOne fun _ fl st => if fl then gCNStr st else gNStr st) (rdCons rdTagsF rdSt0)))))
theorem dTopicPartition : DefM Tryz.prog 146 (tTopicPartition) (fun xs => (xs.set 2 (.n (-1)))) := def_sets (N := 5) Tryz.func146 (by kernel_rfl) rfl rfl (by decide) rfl (DRun.one (i := 2) (ty := .int .i32) (x := .n (-1)) (by kernel_rfl) (by kernel_rfl) rfl rfl rfl rfl (fun w => ⟨_, rfl, rfl, by decide, by decide⟩) (by decide))
def tTopic : List Ty := [.str, .uuid, .arr (.st tTopicPartition), .tags]
def gTopic : Rd := (rdCons (rdIf (fun v => decide (v ≥ 0) && decide (v ≤ 5)) (.s []) (rdOne fun _ fl st => if fl then gCStr st else gStr st)) (rdCons (rdIf (fun v => decide (v ≥ 6)) (.s uuid0) (rdOne fun _ _ => gUuid)) (rdCons (rdArr (fun _ fl st => if fl then gCALen st else gALen st) gTopicPartition) (rdCons rdTagsF rdSt0))))
theorem dTopic : DefM Tryz.prog 145 (tTopic) id := def_skip Tryz.func145 (by kernel_rfl) (by kernel_rfl) (by kernel_rfl)
def tR : List Ty := [.str, .str, .int .i64, .int .i16, .int .i32, .str, .pstr, .arr (.st tTopic), .tags]
def gR : Rd := (rdCons (rdOne fun _ fl st => if fl then gCStr st else gStr st) (rdCons (rdOne fun _ fl st => if fl then gCStr st else gStr st) (rdCons (rdOne fun _ _ => gNum .i64 8) (rdCons (rdOne fun _ _ => gNum .i16 2) (rdCons (rdIf (fun v => decide (v ≥ 3)) (.n (-1)) (rdOne fun _ _ => gNum .i32 4)) (rdCons (rdIf (fun v => decide (v ≥ 3)) (.s []) (rdOne fun _ fl st => if fl then gCStr st else gStr st)) (rdCons (rdIf (fun v => decide (v ≥ 3)) (.nil) (rdOne fun _ fl st => if fl then gCNStr st else gNStr st)) (rdCons (rdArr (fun _ fl st => if fl then gCALen st else gALen st) gTopic) (rdCons rdTagsF rdSt0)))))))))
theorem dR : DefM Tryz.prog 101 (.int .i16 :: tR) (fun xs => (xs.set 5 (.n (-1)))) := def_sets (N := 5) Tryz.func101 (by kernel_rfl) rfl rfl (by decide) rfl (DRun.one (i := 5) (ty := .int .i32) (x := .n (-1)) (by kernel_rfl) (by kernel_rfl) rfl rfl rfl rfl (fun w => ⟨_, rfl, rfl, by decide, by decide⟩) (by decide))
def fl : Int → Bool := fun v => decide (v ≥ 3)
set_option maxRecDepth 20000 in
theorem rf : ReadM Tryz.prog 1 103 tR [.s [], .s [], .n 0, .n 0, .n (-1), .s [], .nil, .nil, .nil] fl gR := by
  refine root Tryz.func103 (by kernel_rfl) rfl rfl rfl ?_ dR (fun _ => rfl) readerT (by kernel_rfl) (by kernel_rfl) (isL_cons (isL_cons (isL_cons (isL_cons (isL_cons (isL_cons (isL_cons (isL_cons (isL_cons isL_nil))))))))) (by decide)
  refine bdy_fl ?_ (by decide)
  refine Run.cons (m := 11) (o' := 2) ?_ ?_ rfl (by decide) (by decide) (isL_cons (isL_cons (isL_cons (isL_cons (isL_cons (isL_cons (isL_cons (isL_cons isL_nil))))))))
  · skip
    exact (fld_var (fld_asg (asg_uns (asg_flex (u := 9) (asg_call mUnsafeCompactString (by decide)) (asg_call mUnsafeString (by decide)) rfl (by decide)) (asg_flex (u := 9) (asg_call mCompactString (by decide)) (asg_call mString (by decide)) rfl (by decide)) (by decide)) (by kernel_rfl) (by kernel_rfl) rfl (by decide)) (by decide))
  refine Run.cons (m := 12) (o' := 3) ?_ ?_ rfl (by decide) (by decide) (isL_cons (isL_cons (isL_cons (isL_cons (isL_cons (isL_cons (isL_cons isL_nil)))))))
  · skip
    exact (fld_var (fld_asg (asg_uns (asg_flex (u := 9) (asg_call mUnsafeCompactString (by decide)) (asg_call mUnsafeString (by decide)) rfl (by decide)) (asg_flex (u := 9) (asg_call mCompactString (by decide)) (asg_call mString (by decide)) rfl (by decide)) (by decide)) (by kernel_rfl) (by kernel_rfl) rfl (by decide)) (by decide))
  refine Run.cons (m := 13) (o' := 4) ?_ ?_ rfl (by decide) (by decide) (isL_cons (isL_cons (isL_cons (isL_cons (isL_cons (isL_cons isL_nil))))))
  · skip
    exact (fld_asg (asg_call mInt64 (by decide)) (by kernel_rfl) (by kernel_rfl) rfl (by decide))
  refine Run.cons (m := 14) (o' := 5) ?_ ?_ rfl (by decide) (by decide) (isL_cons (isL_cons (isL_cons (isL_cons (isL_cons isL_nil)))))
  · skip
    exact (fld_asg (asg_call mInt16 (by decide)) (by kernel_rfl) (by kernel_rfl) rfl (by decide))
  refine Run.cons (m := 15) (o' := 6) ?_ ?_ rfl (by decide) (by decide) (isL_cons (isL_cons (isL_cons (isL_cons isL_nil))))
  · skip
    exact (fld_if (fld_asg (asg_call mInt32 (by decide)) (by kernel_rfl) (by kernel_rfl) rfl (by decide)) (fun i => rfl) (by decide))
  refine Run.cons (m := 16) (o' := 7) ?_ ?_ rfl (by decide) (by decide) (isL_cons (isL_cons (isL_cons isL_nil)))
  · skip
    exact (fld_if (fld_var (fld_asg (asg_uns (asg_flex (u := 9) (asg_call mUnsafeCompactString (by decide)) (asg_call mUnsafeString (by decide)) rfl (by decide)) (asg_flex (u := 9) (asg_call mCompactString (by decide)) (asg_call mString (by decide)) rfl (by decide)) (by decide)) (by kernel_rfl) (by kernel_rfl) rfl (by decide)) (by decide)) (fun i => rfl) (by decide))
  refine Run.cons (m := 17) (o' := 8) ?_ ?_ rfl (by decide) (by decide) (isL_cons (isL_cons isL_nil))
  · skip
    exact (fld_if (fld_var (fld_asg (asg_flex (u := 9) (asg_uns (asg_call mUnsafeCompactNullableString (by decide)) (asg_call mCompactNullableString (by decide)) (by decide)) (asg_uns (asg_call mUnsafeNullableString (by decide)) (asg_call mNullableString (by decide)) (by decide)) rfl (by decide)) (by kernel_rfl) (by kernel_rfl) rfl (by decide)) (by decide)) (fun i => rfl) (by decide))
  refine Run.cons (m := 18) (o' := 9) ?_ ?_ rfl (by decide) (by decide) (isL_cons isL_nil)
  · skip
    refine fld_arr (m' := 22) (e0 := 124) (bs := 64) okM completeM (asg_flex (u := 9) (asg_call mCompactArrayLen (by decide)) (asg_call mArrayLen (by decide)) rfl (by decide)) ?_ (by kernel_rfl) (by decide) (by kernel_rfl) (by kernel_rfl) (by kernel_rfl) (zeroB_is (z := [.string ⟨#[]⟩, .int .u8 0, .int .u8 0, .int .u8 0, .int .u8 0, .int .u8 0, .int .u8 0, .int .u8 0, .int .u8 0, .int .u8 0, .int .u8 0, .int .u8 0, .int .u8 0, .int .u8 0, .int .u8 0, .int .u8 0, .int .u8 0, .slice none 0 0, .map none]) (by kernel_rfl)) rfl rfl (by decide)
    refine elt_st (m' := 24) (et := 124) (z0 := [.s [], .s uuid0, .nil, .nil]) (bs := 64) ?_ dTopic ?_ (by kernel_rfl) (by decide)
    · skip
      refine Fld.cons (m := 24) (m' := 25) (o' := 1) ?_ ?_ rfl (by decide) (by decide) (by decide)
      · skip
        exact (fld_if2 (fld_var (fld_asg (asg_uns (asg_flex (u := 9) (asg_call mUnsafeCompactString (by decide)) (asg_call mUnsafeString (by decide)) rfl (by decide)) (asg_flex (u := 9) (asg_call mCompactString (by decide)) (asg_call mString (by decide)) rfl (by decide)) (by decide)) (by kernel_rfl) (by kernel_rfl) rfl (by decide)) (by decide)) (by decide))
      refine Fld.cons (m := 25) (m' := 26) (o' := 17) ?_ ?_ rfl (by decide) (by decide) (by decide)
      · skip
        exact (fld_if (fld_uuid mUuid uuidT (by kernel_rfl) (by decide)) (fun i => rfl) (by decide))
      refine Fld.cons (m := 26) (m' := 234) (o' := 18) ?_ ?_ rfl (by decide) (by decide) (by decide)
      · skip
        refine fld_arr (m' := 30) (e0 := 127) (bs := 40) okM completeM (asg_flex (u := 9) (asg_call mCompactArrayLen (by decide)) (asg_call mArrayLen (by decide)) rfl (by decide)) ?_ (by kernel_rfl) (by decide) (by kernel_rfl) (by kernel_rfl) (by kernel_rfl) (zeroB_is (z := [.int .i32 0, .int .i64 0, .int .i32 0, .pointer none, .map none]) (by kernel_rfl)) rfl rfl (by decide)
        refine elt_st (m' := 32) (et := 127) (z0 := [.n 0, .n 0, .n 0, .nil, .nil]) (bs := 40) ?_ dTopicPartition ?_ (by kernel_rfl) (by decide)
        · skip
          refine Fld.cons (m := 32) (m' := 33) (o' := 1) ?_ ?_ rfl (by decide) (by decide) (by decide)
          · skip
            exact (fld_asg (asg_call mInt32 (by decide)) (by kernel_rfl) (by kernel_rfl) rfl (by decide))
          refine Fld.cons (m := 33) (m' := 34) (o' := 2) ?_ ?_ rfl (by decide) (by decide) (by decide)
          · skip
            exact (fld_asg (asg_call mInt64 (by decide)) (by kernel_rfl) (by kernel_rfl) rfl (by decide))
          refine Fld.cons (m := 34) (m' := 35) (o' := 3) ?_ ?_ rfl (by decide) (by decide) (by decide)
          · skip
            exact (fld_if (fld_asg (asg_call mInt32 (by decide)) (by kernel_rfl) (by kernel_rfl) rfl (by decide)) (fun i => rfl) (by decide))
          refine Fld.cons (m := 35) (m' := 224) (o' := 4) ?_ ?_ rfl (by decide) (by decide) (by decide)
          · skip
            exact (fld_var (fld_asg (asg_flex (u := 9) (asg_uns (asg_call mUnsafeCompactNullableString (by decide)) (asg_call mCompactNullableString (by decide)) (by decide)) (asg_uns (asg_call mUnsafeNullableString (by decide)) (asg_call mNullableString (by decide)) (by decide)) rfl (by decide)) (by kernel_rfl) (by kernel_rfl) rfl (by decide)) (by decide))
          refine Fld.one ?_
          exact (fld_tags (tf := 9) mTags (flatB_is (by kernel_rfl)) (by kernel_rfl) rfl (by decide))
        · exact fun w => reps_zero tTopicPartition
      refine Fld.one ?_
      exact (fld_tags (tf := 9) mTags (flatB_is (by kernel_rfl)) (by kernel_rfl) rfl (by decide))
    · exact fun w => reps_zero tTopic
  refine Run.cons (m := 244) (o' := 10) ?_ ?_ rfl (by decide) (by decide) isL_nil
  · skip
    exact (fld_tags (tf := 9) mTags (flatB_is (by kernel_rfl)) (by kernel_rfl) rfl (by decide))
  exact run_end completeM (by decide)
theorem setM : SetM Tryz.prog 54 := set_m Tryz.func54 (by kernel_rfl) rfl rfl rfl (by kernel_rfl) (by kernel_rfl)
theorem newM : NewM Tryz.prog 51 (.int .i16 :: tR) [.n 0, .s [], .s [], .n 0, .n 0, .n (-1), .s [], .nil, .nil, .nil] := new_m (d := (fun xs => (xs.set 5 (.n (-1))))) Tryz.func51 (by kernel_rfl) rfl rfl rfl (zeroB_is (by kernel_rfl)) dR (by decide)
theorem maxM : MaxM Tryz.prog 22 6 := maxd_m (tys := .int .i16 :: tR) (ds := [.n 0, .s [], .s [], .n 0, .n 0, .n (-1), .s [], .nil, .nil, .nil]) (mx := ((6 : Nat) : Int)) (fmx := 52) (fnw := 51) (f := 22) (P := Tryz.prog) Tryz.func22 (by kernel_rfl) rfl rfl rfl newM (maxv_m Tryz.func52 (by kernel_rfl) rfl rfl rfl) (by decide) (by kernel_rfl) (by kernel_rfl)
theorem rd1 : ReadD Tryz.prog 1 55 tR [.s [], .s [], .n 0, .n 0, .n (-1), .s [], .nil, .nil, .nil] fl gR := read_d rf Tryz.func55 (by kernel_rfl) rfl rfl rfl
theorem door : BehM Tryz.prog 1 24 (behRes gR fl fun ver => apSt ((fun _ => []) :: gaTxnOffsetCommitRequest ver)) := behind_m (te := 5) Tryz.func24 (by kernel_rfl) rfl rfl rfl (by kernel_rfl) octT (by kernel_rfl) (by kernel_rfl) (by kernel_rfl) newM setM rd1 app
theorem plTopicPartition (ver : Int) (hv : 0 ≤ ver) (t : T) (hk : KeysOk t) : InvL gTopicPartition ver (decide (ver ≥ 3)) (gaTxnOffsetCommitRequestTopicPartition ver) (partW fssTxnOffsetCommitRequestTopicPartition ver (decide (ver ≥ 3)) t) := by
  refine inv_part (by kernel_rfl) ?_
  refine invb_cons (inv_has (has_all hv (by decide) (by decide)) invf_i32) ?_
  refine invb_cons (inv_has (has_all hv (by decide) (by decide)) invf_i64) ?_
  refine invb_cons (inv_gate (p := fun v => decide (v ≥ 2)) (has_ge (by decide)) invf_i32) ?_
  refine invb_cons (inv_has (has_all hv (by decide) (by decide)) invf_pstr) ?_
  exact invb_nil (inv_tagend hk)
theorem poTopicPartition (ver : Int) (hv : 0 ≤ ver) (t : T) : 1 ≤ (partW fssTxnOffsetCommitRequestTopicPartition ver (decide (ver ≥ 3)) t).length := part_pos (by kernel_rfl) (body_head (has_all hv (by decide) (by decide)) (fieldW_pos (by decide)))
theorem plTopic (ver : Int) (hv : 0 ≤ ver) (t : T) (hk : KeysOk t) : InvL gTopic ver (decide (ver ≥ 3)) (gaTxnOffsetCommitRequestTopic ver) (partW fssTxnOffsetCommitRequestTopic ver (decide (ver ≥ 3)) t) := by
  refine inv_part (by kernel_rfl) ?_
  refine invb_cons (inv_gate (p := fun v => decide (v ≥ 0) && decide (v ≤ 5)) (has_rng (by decide)) (invf_str (by decide))) ?_
  refine invb_cons (inv_gate (p := fun v => decide (v ≥ 6)) (has_ge (by decide)) invf_uuid) ?_
  refine invb_cons (inv_has (has_all hv (by decide) (by decide)) (invf_arr (by decide) (fun z hz => inv_el (plTopicPartition ver hv z ((KeysOk.at hk.l 2).l z hz))) (fun z => value_pos10 (poTopicPartition ver hv z)))) ?_
  exact invb_nil (inv_tagend hk)
theorem poTopic (ver : Int) (hv : 0 ≤ ver) (t : T) : 1 ≤ (partW fssTxnOffsetCommitRequestTopic ver (decide (ver ≥ 3)) t).length := part_pos (by kernel_rfl) (body_tail (body_tail (body_head (has_all hv (by decide) (by decide)) (fieldW_pos (by decide)))))
theorem plR (ver : Int) (hv : 0 ≤ ver) (t : T) (hk : KeysOk t) : InvL gR ver (decide (ver ≥ 3)) (gaTxnOffsetCommitRequest ver) (partW fsTxnOffsetCommitRequest ver (decide (ver ≥ 3)) t) := by
  refine inv_part (by kernel_rfl) ?_
  refine invb_cons (inv_has (has_all hv (by decide) (by decide)) (invf_str (by decide))) ?_
  refine invb_cons (inv_has (has_all hv (by decide) (by decide)) (invf_str (by decide))) ?_
  refine invb_cons (inv_has (has_all hv (by decide) (by decide)) invf_i64) ?_
  refine invb_cons (inv_has (has_all hv (by decide) (by decide)) invf_i16) ?_
  refine invb_cons (inv_gate (p := fun v => decide (v ≥ 3)) (has_ge (by decide)) invf_i32) ?_
  refine invb_cons (inv_gate (p := fun v => decide (v ≥ 3)) (has_ge (by decide)) (invf_str (by decide))) ?_
  refine invb_cons (inv_gate (p := fun v => decide (v ≥ 3)) (has_ge (by decide)) invf_pstr) ?_
  refine invb_cons (inv_has (has_all hv (by decide) (by decide)) (invf_arr (by decide) (fun z hz => inv_el (plTopic ver hv z ((KeysOk.at hk.l 7).l z hz))) (fun z => value_pos10 (poTopic ver hv z)))) ?_
  exact invb_nil (inv_tagend hk)
def small (t : T) : Prop := KeysOk t ∧ ∀ ver flex, (partW fsTxnOffsetCommitRequest ver flex t).length ≤ 2147483648
theorem law : LawB Tryz.prog 1 6 small := by
  refine lawb_m (te := 5) (mx := 6) (fs := fsTxnOffsetCommitRequest) (enc := partW fsTxnOffsetCommitRequest) Tryz.func6 (by kernel_rfl) rfl rfl rfl (by kernel_rfl) octT (by kernel_rfl) (flatB_is (by kernel_rfl)) (flatB_is (by kernel_rfl)) wFit maxM (by decide) ifsTxnOffsetCommitRequest verM (wWrite fsTxnOffsetCommitRequest (by decide)) door sameM ?_
  rintro ver h0 h1 t ⟨hk, hs⟩
  refine ⟨hs _ _, ?_⟩
  rw [show (decide ((3 : Int) ≥ 0) && decide (ver ≥ 3)) = fl ver from by simp [fl]]
  exact beh_plain (plR ver h0 t hk)
end Go.Proofs.YtfapegflnipofaaGreatDoor.TxnOffsetCommitRequest
