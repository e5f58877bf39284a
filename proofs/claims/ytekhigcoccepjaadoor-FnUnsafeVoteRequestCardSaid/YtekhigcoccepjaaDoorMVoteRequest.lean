/- The parts of the law on VoteRequest: what the codes that it reaches give. Printed by gen_msg.py. -/
import Derived.Test.YtekhigcoccepjaaDoorKqCom
set_option linter.unusedVariables false
set_option linter.unusedSimpArgs false
namespace Go.Proofs.YtekhigcoccepjaaDoor.VoteRequest
open Go.Kq
def tTopicPartition : List Ty := [.int .i32, .int .i32, .int .i32, .uuid, .uuid, .int .i32, .int .i64, .bool, .tags]
def gTopicPartition : Rd := (rdCons (rdOne fun _ _ => gNum .i32 4) (rdCons (rdOne fun _ _ => gNum .i32 4) (rdCons (rdOne fun _ _ => gNum .i32 4) (rdCons (rdIf (fun v => decide (v ≥ 1)) (.s uuid0) (rdOne fun _ _ => gUuid)) (rdCons (rdIf (fun v => decide (v ≥ 1)) (.s uuid0) (rdOne fun _ _ => gUuid)) (rdCons (rdOne fun _ _ => gNum .i32 4) (rdCons (rdOne fun _ _ => gNum .i64 8) (rdCons (rdIf (fun v => decide (v ≥ 2)) (.n 0) (rdOne fun _ _ => gBool)) (rdCons rdTagsF rdSt0)))))))))
theorem dTopicPartition : DefM Tryd.prog 124 (tTopicPartition) id := def_skip Tryd.func124 (by kernel_rfl) (by kernel_rfl) (by kernel_rfl)
def tTopic : List Ty := [.str, .arr (.st tTopicPartition), .tags]
def gTopic : Rd := (rdCons (rdOne fun _ fl st => if fl then gCStr st else gStr st) (rdCons (rdArr (fun _ fl st => if fl then gCALen st else gALen st) gTopicPartition) (rdCons rdTagsF rdSt0)))
theorem dTopic : DefM Tryd.prog 123 (tTopic) id := def_skip Tryd.func123 (by kernel_rfl) (by kernel_rfl) (by kernel_rfl)
def tR : List Ty := [.pstr, .int .i32, .arr (.st tTopic), .tags]
def gR : Rd := (rdCons (rdOne fun _ fl st => if fl then gCNStr st else gNStr st) (rdCons (rdIf (fun v => decide (v ≥ 1)) (.n (-1)) (rdOne fun _ _ => gNum .i32 4)) (rdCons (rdArr (fun _ fl st => if fl then gCALen st else gALen st) gTopic) (rdCons rdTagsF rdSt0))))
theorem dR : DefM Tryd.prog 82 (.int .i16 :: tR) (fun xs => (xs.set 2 (.n (-1)))) := def_sets (N := 5) Tryd.func82 (by kernel_rfl) rfl rfl (by decide) rfl (DRun.one (i := 2) (ty := .int .i32) (x := .n (-1)) (by kernel_rfl) (by kernel_rfl) rfl rfl rfl rfl (fun w => ⟨_, rfl, rfl, by decide, by decide⟩) (by decide))
def fl : Int → Bool := fun v => decide (v ≥ 0)
set_option maxRecDepth 20000 in
theorem rf : ReadM Tryd.prog 0 83 tR [.nil, .n (-1), .nil, .nil] fl gR := by
  refine root Tryd.func83 (by kernel_rfl) rfl rfl rfl ?_ dR (fun _ => rfl) readerT (by kernel_rfl) (by kernel_rfl) (isL_cons (isL_cons (isL_cons (isL_cons isL_nil)))) (by decide)
  refine bdy_fl ?_ (by decide)
  refine Run.cons (m := 11) (o' := 2) ?_ ?_ rfl (by decide) (by decide) (isL_cons (isL_cons (isL_cons isL_nil)))
  · skip
    exact (fld_var (fld_asg (asg_flex (u := 9) (asg_uns (asg_call mUnsafeCompactNullableString (by decide)) (asg_call mCompactNullableString (by decide)) (by decide)) (asg_uns (asg_call mUnsafeNullableString (by decide)) (asg_call mNullableString (by decide)) (by decide)) rfl (by decide)) (by kernel_rfl) (by kernel_rfl) rfl (by decide)) (by decide))
  refine Run.cons (m := 12) (o' := 3) ?_ ?_ rfl (by decide) (by decide) (isL_cons (isL_cons isL_nil))
  · skip
    exact (fld_if (fld_asg (asg_call mInt32 (by decide)) (by kernel_rfl) (by kernel_rfl) rfl (by decide)) (fun i => rfl) (by decide))
  refine Run.cons (m := 13) (o' := 4) ?_ ?_ rfl (by decide) (by decide) (isL_cons isL_nil)
  · skip
    refine fld_arr (m' := 17) (e0 := 107) (bs := 48) okM completeM (asg_flex (u := 9) (asg_call mCompactArrayLen (by decide)) (asg_call mArrayLen (by decide)) rfl (by decide)) ?_ (by kernel_rfl) (by decide) (by kernel_rfl) (by kernel_rfl) (by kernel_rfl) (zeroB_is (z := [.string ⟨#[]⟩, .slice none 0 0, .map none]) (by kernel_rfl)) rfl rfl (by decide)
    refine elt_st (m' := 19) (et := 107) (z0 := [.s [], .nil, .nil]) (bs := 48) ?_ dTopic ?_ (by kernel_rfl) (by decide)
    · skip
      refine Fld.cons (m := 19) (m' := 20) (o' := 1) ?_ ?_ rfl (by decide) (by decide) (by decide)
      · skip
        exact (fld_var (fld_asg (asg_uns (asg_flex (u := 9) (asg_call mUnsafeCompactString (by decide)) (asg_call mUnsafeString (by decide)) rfl (by decide)) (asg_flex (u := 9) (asg_call mCompactString (by decide)) (asg_call mString (by decide)) rfl (by decide)) (by decide)) (by kernel_rfl) (by kernel_rfl) rfl (by decide)) (by decide))
      refine Fld.cons (m := 20) (m' := 190) (o' := 2) ?_ ?_ rfl (by decide) (by decide) (by decide)
      · skip
        refine fld_arr (m' := 24) (e0 := 149) (bs := 72) okM completeM (asg_flex (u := 9) (asg_call mCompactArrayLen (by decide)) (asg_call mArrayLen (by decide)) rfl (by decide)) ?_ (by kernel_rfl) (by decide) (by kernel_rfl) (by kernel_rfl) (by kernel_rfl) (zeroB_is (z := [.int .i32 0, .int .i32 0, .int .i32 0, .int .u8 0, .int .u8 0, .int .u8 0, .int .u8 0, .int .u8 0, .int .u8 0, .int .u8 0, .int .u8 0, .int .u8 0, .int .u8 0, .int .u8 0, .int .u8 0, .int .u8 0, .int .u8 0, .int .u8 0, .int .u8 0, .int .u8 0, .int .u8 0, .int .u8 0, .int .u8 0, .int .u8 0, .int .u8 0, .int .u8 0, .int .u8 0, .int .u8 0, .int .u8 0, .int .u8 0, .int .u8 0, .int .u8 0, .int .u8 0, .int .u8 0, .int .u8 0, .int .i32 0, .int .i64 0, .bool false, .map none]) (by kernel_rfl)) rfl rfl (by decide)
        refine elt_st (m' := 26) (et := 149) (z0 := [.n 0, .n 0, .n 0, .s uuid0, .s uuid0, .n 0, .n 0, .n 0, .nil]) (bs := 72) ?_ dTopicPartition ?_ (by kernel_rfl) (by decide)
        · skip
          refine Fld.cons (m := 26) (m' := 27) (o' := 1) ?_ ?_ rfl (by decide) (by decide) (by decide)
          · skip
            exact (fld_asg (asg_call mInt32 (by decide)) (by kernel_rfl) (by kernel_rfl) rfl (by decide))
          refine Fld.cons (m := 27) (m' := 28) (o' := 2) ?_ ?_ rfl (by decide) (by decide) (by decide)
          · skip
            exact (fld_asg (asg_call mInt32 (by decide)) (by kernel_rfl) (by kernel_rfl) rfl (by decide))
          refine Fld.cons (m := 28) (m' := 29) (o' := 3) ?_ ?_ rfl (by decide) (by decide) (by decide)
          · skip
            exact (fld_asg (asg_call mInt32 (by decide)) (by kernel_rfl) (by kernel_rfl) rfl (by decide))
          refine Fld.cons (m := 29) (m' := 30) (o' := 19) ?_ ?_ rfl (by decide) (by decide) (by decide)
          · skip
            exact (fld_if (fld_uuid mUuid uuidT (by kernel_rfl) (by decide)) (fun i => rfl) (by decide))
          refine Fld.cons (m := 30) (m' := 31) (o' := 35) ?_ ?_ rfl (by decide) (by decide) (by decide)
          · skip
            exact (fld_if (fld_uuid mUuid uuidT (by kernel_rfl) (by decide)) (fun i => rfl) (by decide))
          refine Fld.cons (m := 31) (m' := 32) (o' := 36) ?_ ?_ rfl (by decide) (by decide) (by decide)
          · skip
            exact (fld_asg (asg_call mInt32 (by decide)) (by kernel_rfl) (by kernel_rfl) rfl (by decide))
          refine Fld.cons (m := 32) (m' := 33) (o' := 37) ?_ ?_ rfl (by decide) (by decide) (by decide)
          · skip
            exact (fld_asg (asg_call mInt64 (by decide)) (by kernel_rfl) (by kernel_rfl) rfl (by decide))
          refine Fld.cons (m := 33) (m' := 180) (o' := 38) ?_ ?_ rfl (by decide) (by decide) (by decide)
          · skip
            exact (fld_if (fld_asg (asg_call mBool (by decide)) (by kernel_rfl) (by kernel_rfl) rfl (by decide)) (fun i => rfl) (by decide))
          refine Fld.one ?_
          exact (fld_tags (tf := 9) mTags (flatB_is (by kernel_rfl)) (by kernel_rfl) rfl (by decide))
        · exact fun w => reps_zero tTopicPartition
      refine Fld.one ?_
      exact (fld_tags (tf := 9) mTags (flatB_is (by kernel_rfl)) (by kernel_rfl) rfl (by decide))
    · exact fun w => reps_zero tTopic
  refine Run.cons (m := 200) (o' := 5) ?_ ?_ rfl (by decide) (by decide) isL_nil
  · skip
    exact (fld_tags (tf := 9) mTags (flatB_is (by kernel_rfl)) (by kernel_rfl) rfl (by decide))
  exact run_end completeM (by decide)
def gsTopicPartition : List (V → T) := [tNum, tNum, tNum, tUuid, tUuid, tNum, tNum, tBool]
def tgTopicPartition (x : V) : T := .mk 0 [] false (tellAll gsTopicPartition (x.items.drop 0)) (uOf gsTopicPartition (x.items.drop 0))
theorem cbTopicPartition : CbM Tryd.prog 152 := cb_m (et := 5) (TL := 24) (bs := 32) Tryd.func152 (by kernel_rfl) rfl rfl rfl (by kernel_rfl) treeT (by kernel_rfl) (by kernel_rfl) (by decide) tagF tagT (by kernel_rfl) octT
theorem tlTopicPartition : TellM Tryd.prog 126 (.st (tTopicPartition)) tgTopicPartition := by
  refine tell_root (pre := []) (tys := tTopicPartition) (st := 3) (m := 4) treeT Tryd.func126 (by kernel_rfl) rfl rfl rfl ?_ rfl rfl (by decide) (by decide)
  refine TRun.cons (o' := 1) (tl_num treeT (by kernel_rfl) (by kernel_rfl) (by kernel_rfl) (by kernel_rfl) (by kernel_rfl) (by decide) (by decide)) ?_ rfl (by decide)
  refine TRun.cons (o' := 2) (tl_num treeT (by kernel_rfl) (by kernel_rfl) (by kernel_rfl) (by kernel_rfl) (by kernel_rfl) (by decide) (by decide)) ?_ rfl (by decide)
  refine TRun.cons (o' := 3) (tl_num treeT (by kernel_rfl) (by kernel_rfl) (by kernel_rfl) (by kernel_rfl) (by kernel_rfl) (by decide) (by decide)) ?_ rfl (by decide)
  refine TRun.cons (o' := 19) (tl_uuid treeT (by kernel_rfl) (by kernel_rfl) uuidT (by kernel_rfl) octT (by decide)) ?_ rfl (by decide)
  refine TRun.cons (o' := 35) (tl_uuid treeT (by kernel_rfl) (by kernel_rfl) uuidT (by kernel_rfl) octT (by decide)) ?_ rfl (by decide)
  refine TRun.cons (o' := 36) (tl_num treeT (by kernel_rfl) (by kernel_rfl) (by kernel_rfl) (by kernel_rfl) (by kernel_rfl) (by decide) (by decide)) ?_ rfl (by decide)
  refine TRun.cons (o' := 37) (tl_n64 treeT (by kernel_rfl) (by kernel_rfl) (by kernel_rfl) (by decide)) ?_ rfl (by decide)
  refine TRun.cons (o' := 38) (tl_fn treeT boolM (by kernel_rfl) (by kernel_rfl) (by kernel_rfl) rfl (by decide)) ?_ rfl (by decide)
  exact TRun.tags treeT eachM cbTopicPartition sortedM (by kernel_rfl) (by kernel_rfl) (by decide)
def gsTopic : List (V → T) := [tStr, fun x => .mk 0 [] x.isNil (x.items.map tgTopicPartition) []]
def tgTopic (x : V) : T := .mk 0 [] false (tellAll gsTopic (x.items.drop 0)) (uOf gsTopic (x.items.drop 0))
theorem cbTopic : CbM Tryd.prog 127 := cb_m (et := 5) (TL := 24) (bs := 32) Tryd.func127 (by kernel_rfl) rfl rfl rfl (by kernel_rfl) treeT (by kernel_rfl) (by kernel_rfl) (by decide) tagF tagT (by kernel_rfl) octT
theorem tlTopic : TellM Tryd.prog 84 (.st (tTopic)) tgTopic := by
  refine tell_root (pre := []) (tys := tTopic) (st := 3) (m := 4) treeT Tryd.func84 (by kernel_rfl) rfl rfl rfl ?_ rfl rfl (by decide) (by decide)
  refine TRun.cons (o' := 1) (tl_str treeT (by kernel_rfl) (by kernel_rfl) (by kernel_rfl) (by kernel_rfl) (by kernel_rfl) (by decide)) ?_ rfl (by decide)
  refine TRun.cons2 (o' := 2) (tl_null treeT (by kernel_rfl) (by kernel_rfl) (by kernel_rfl) (by kernel_rfl) (by kernel_rfl) (by decide)) (tl_loop (m2 := 35) treeT (app_call1 treeT tlTopicPartition rfl (by kernel_rfl) (by kernel_rfl) (by kernel_rfl) (by kernel_rfl) (by decide)) (app_call2 treeT tlTopicPartition (by kernel_rfl) (by kernel_rfl) (by kernel_rfl) (by kernel_rfl) (by decide)) boolT (by kernel_rfl) (by kernel_rfl) (by kernel_rfl) (by kernel_rfl) (by kernel_rfl) (by decide)) ?_ rfl (by decide)
  exact TRun.tags treeT eachM cbTopic sortedM (by kernel_rfl) (by kernel_rfl) (by decide)
def gsR : List (V → T) := [tText, tNum, fun x => .mk 0 [] x.isNil (x.items.map tgTopic) []]
def tgR (x : V) : T := .mk 0 [] false (tellAll gsR (x.items.drop 1)) (uOf gsR (x.items.drop 1))
theorem cbR : CbM Tryd.prog 85 := cb_m (et := 5) (TL := 24) (bs := 32) Tryd.func85 (by kernel_rfl) rfl rfl rfl (by kernel_rfl) treeT (by kernel_rfl) (by kernel_rfl) (by decide) tagF tagT (by kernel_rfl) octT
theorem tlR : TellM Tryd.prog 53 (.st (.int .i16 :: tR)) tgR := by
  refine tell_root (pre := [.int .i16]) (tys := tR) (st := 3) (m := 4) treeT Tryd.func53 (by kernel_rfl) rfl rfl rfl ?_ rfl rfl (by decide) (by decide)
  refine TRun.cons (o' := 2) (tl_fn treeT textM (by kernel_rfl) (by kernel_rfl) (by kernel_rfl) rfl (by decide)) ?_ rfl (by decide)
  refine TRun.cons (o' := 3) (tl_num treeT (by kernel_rfl) (by kernel_rfl) (by kernel_rfl) (by kernel_rfl) (by kernel_rfl) (by decide) (by decide)) ?_ rfl (by decide)
  refine TRun.cons2 (o' := 4) (tl_null treeT (by kernel_rfl) (by kernel_rfl) (by kernel_rfl) (by kernel_rfl) (by kernel_rfl) (by decide)) (tl_loop (m2 := 43) treeT (app_call1 treeT tlTopic rfl (by kernel_rfl) (by kernel_rfl) (by kernel_rfl) (by kernel_rfl) (by decide)) (app_call2 treeT tlTopic (by kernel_rfl) (by kernel_rfl) (by kernel_rfl) (by kernel_rfl) (by decide)) boolT (by kernel_rfl) (by kernel_rfl) (by kernel_rfl) (by kernel_rfl) (by kernel_rfl) (by decide)) ?_ rfl (by decide)
  exact TRun.tags treeT eachM cbR sortedM (by kernel_rfl) (by kernel_rfl) (by decide)
theorem setM : SetM Tryd.prog 51 := set_m Tryd.func51 (by kernel_rfl) rfl rfl rfl (by kernel_rfl) (by kernel_rfl)
theorem newM : NewM Tryd.prog 49 (.int .i16 :: tR) [.n 0, .nil, .n (-1), .nil, .nil] := new_m (d := (fun xs => (xs.set 2 (.n (-1))))) Tryd.func49 (by kernel_rfl) rfl rfl rfl (zeroB_is (by kernel_rfl)) dR (by decide)
theorem maxM : MaxM Tryd.prog 21 2 := maxd_m (tys := .int .i16 :: tR) (ds := [.n 0, .nil, .n (-1), .nil, .nil]) (mx := ((2 : Nat) : Int)) (fmx := 50) (fnw := 49) (f := 21) (P := Tryd.prog) Tryd.func21 (by kernel_rfl) rfl rfl rfl newM (maxv_m Tryd.func50 (by kernel_rfl) rfl rfl rfl) (by decide) (by kernel_rfl) (by kernel_rfl)
theorem rd1 : ReadD Tryd.prog 0 52 tR [.nil, .n (-1), .nil, .nil] fl gR := read_d rf Tryd.func52 (by kernel_rfl) rfl rfl rfl
theorem rd2 : ReadD Tryd.prog 0 54 tR [.nil, .n (-1), .nil, .nil] fl gR := read_d rf Tryd.func54 (by kernel_rfl) rfl rfl rfl
theorem door1 : DoorM Tryd.prog 0 22 (doorRes gR fl tgR) := door_m (te := 5) Tryd.func22 (by kernel_rfl) rfl rfl rfl treeT.flat (by kernel_rfl) (zeroB_is (by kernel_rfl)) (by kernel_rfl) (by kernel_rfl) (by kernel_rfl) newM setM rd1 tlR
theorem door2 : DoorM Tryd.prog 0 23 (doorRes gR fl tgR) := door_m (te := 5) Tryd.func23 (by kernel_rfl) rfl rfl rfl treeT.flat (by kernel_rfl) (zeroB_is (by kernel_rfl)) (by kernel_rfl) (by kernel_rfl) (by kernel_rfl) newM setM rd2 tlR
theorem law : LawU Tryd.prog 0 6 := lawu_m (mx := 2) (te := 5) Tryd.func6 (by kernel_rfl) rfl rfl rfl (by kernel_rfl) treeT.flat (by kernel_rfl) (by kernel_rfl) (by kernel_rfl) maxM (by decide) verM door1 door2 (enters_of Tryd.func14 (by kernel_rfl) rfl) gotM (enters_of Tryd.func13 (by kernel_rfl) rfl) sameTree
end Go.Proofs.YtekhigcoccepjaaDoor.VoteRequest
