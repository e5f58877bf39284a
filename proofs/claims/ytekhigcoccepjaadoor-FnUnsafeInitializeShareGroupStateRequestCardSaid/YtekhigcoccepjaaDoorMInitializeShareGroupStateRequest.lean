/- The parts of the law on InitializeShareGroupStateRequest: what the codes that it reaches give. Printed by gen_msg.py. -/
import Derived.Test.YtekhigcoccepjaaDoorKqCom
set_option linter.unusedVariables false
set_option linter.unusedSimpArgs false
namespace Go.Proofs.YtekhigcoccepjaaDoor.InitializeShareGroupStateRequest
open Go.Kq
def tTopicPartition : List Ty := [.int .i32, .int .i32, .int .i64, .tags]
def gTopicPartition : Rd := (rdCons (rdOne fun _ _ => gNum .i32 4) (rdCons (rdOne fun _ _ => gNum .i32 4) (rdCons (rdOne fun _ _ => gNum .i64 8) (rdCons rdTagsF rdSt0))))
theorem dTopicPartition : DefM Tryd.prog 104 (tTopicPartition) id := def_skip Tryd.func104 (by kernel_rfl) (by kernel_rfl) (by kernel_rfl)
def tTopic : List Ty := [.uuid, .arr (.st tTopicPartition), .tags]
def gTopic : Rd := (rdCons (rdOne fun _ _ => gUuid) (rdCons (rdArr (fun _ fl st => if fl then gCALen st else gALen st) gTopicPartition) (rdCons rdTagsF rdSt0)))
theorem dTopic : DefM Tryd.prog 102 (tTopic) id := def_skip Tryd.func102 (by kernel_rfl) (by kernel_rfl) (by kernel_rfl)
def tR : List Ty := [.str, .arr (.st tTopic), .tags]
def gR : Rd := (rdCons (rdOne fun _ fl st => if fl then gCStr st else gStr st) (rdCons (rdArr (fun _ fl st => if fl then gCALen st else gALen st) gTopic) (rdCons rdTagsF rdSt0)))
theorem dR : DefM Tryd.prog 67 (.int .i16 :: tR) id := def_skip Tryd.func67 (by kernel_rfl) (by kernel_rfl) (by kernel_rfl)
def fl : Int → Bool := fun v => decide (v ≥ 0)
set_option maxRecDepth 20000 in
theorem rf : ReadM Tryd.prog 0 68 tR [.s [], .nil, .nil] fl gR := by
  refine root Tryd.func68 (by kernel_rfl) rfl rfl rfl ?_ dR (fun _ => rfl) readerT (by kernel_rfl) (by kernel_rfl) (isL_cons (isL_cons (isL_cons isL_nil))) (by decide)
  refine bdy_fl ?_ (by decide)
  refine Run.cons (m := 11) (o' := 2) ?_ ?_ rfl (by decide) (by decide) (isL_cons (isL_cons isL_nil))
  · skip
    exact (fld_var (fld_asg (asg_uns (asg_flex (u := 9) (asg_call mUnsafeCompactString (by decide)) (asg_call mUnsafeString (by decide)) rfl (by decide)) (asg_flex (u := 9) (asg_call mCompactString (by decide)) (asg_call mString (by decide)) rfl (by decide)) (by decide)) (by kernel_rfl) (by kernel_rfl) rfl (by decide)) (by decide))
  refine Run.cons (m := 12) (o' := 3) ?_ ?_ rfl (by decide) (by decide) (isL_cons isL_nil)
  · skip
    refine fld_arr (m' := 16) (e0 := 79) (bs := 48) okM completeM (asg_flex (u := 9) (asg_call mCompactArrayLen (by decide)) (asg_call mArrayLen (by decide)) rfl (by decide)) ?_ (by kernel_rfl) (by decide) (by kernel_rfl) (by kernel_rfl) (by kernel_rfl) (zeroB_is (z := [.int .u8 0, .int .u8 0, .int .u8 0, .int .u8 0, .int .u8 0, .int .u8 0, .int .u8 0, .int .u8 0, .int .u8 0, .int .u8 0, .int .u8 0, .int .u8 0, .int .u8 0, .int .u8 0, .int .u8 0, .int .u8 0, .slice none 0 0, .map none]) (by kernel_rfl)) rfl rfl (by decide)
    refine elt_st (m' := 18) (et := 79) (z0 := [.s uuid0, .nil, .nil]) (bs := 48) ?_ dTopic ?_ (by kernel_rfl) (by decide)
    · skip
      refine Fld.cons (m := 18) (m' := 19) (o' := 16) ?_ ?_ rfl (by decide) (by decide) (by decide)
      · skip
        exact (fld_uuid mUuid uuidT (by kernel_rfl) (by decide))
      refine Fld.cons (m := 19) (m' := 140) (o' := 17) ?_ ?_ rfl (by decide) (by decide) (by decide)
      · skip
        refine fld_arr (m' := 23) (e0 := 133) (bs := 24) okM completeM (asg_flex (u := 9) (asg_call mCompactArrayLen (by decide)) (asg_call mArrayLen (by decide)) rfl (by decide)) ?_ (by kernel_rfl) (by decide) (by kernel_rfl) (by kernel_rfl) (by kernel_rfl) (zeroB_is (z := [.int .i32 0, .int .i32 0, .int .i64 0, .map none]) (by kernel_rfl)) rfl rfl (by decide)
        refine elt_st (m' := 25) (et := 133) (z0 := [.n 0, .n 0, .n 0, .nil]) (bs := 24) ?_ dTopicPartition ?_ (by kernel_rfl) (by decide)
        · skip
          refine Fld.cons (m := 25) (m' := 26) (o' := 1) ?_ ?_ rfl (by decide) (by decide) (by decide)
          · skip
            exact (fld_asg (asg_call mInt32 (by decide)) (by kernel_rfl) (by kernel_rfl) rfl (by decide))
          refine Fld.cons (m := 26) (m' := 27) (o' := 2) ?_ ?_ rfl (by decide) (by decide) (by decide)
          · skip
            exact (fld_asg (asg_call mInt32 (by decide)) (by kernel_rfl) (by kernel_rfl) rfl (by decide))
          refine Fld.cons (m := 27) (m' := 130) (o' := 3) ?_ ?_ rfl (by decide) (by decide) (by decide)
          · skip
            exact (fld_asg (asg_call mInt64 (by decide)) (by kernel_rfl) (by kernel_rfl) rfl (by decide))
          refine Fld.one ?_
          exact (fld_tags (tf := 9) mTags (flatB_is (by kernel_rfl)) (by kernel_rfl) rfl (by decide))
        · exact fun w => reps_zero tTopicPartition
      refine Fld.one ?_
      exact (fld_tags (tf := 9) mTags (flatB_is (by kernel_rfl)) (by kernel_rfl) rfl (by decide))
    · exact fun w => reps_zero tTopic
  refine Run.cons (m := 150) (o' := 4) ?_ ?_ rfl (by decide) (by decide) isL_nil
  · skip
    exact (fld_tags (tf := 9) mTags (flatB_is (by kernel_rfl)) (by kernel_rfl) rfl (by decide))
  exact run_end completeM (by decide)
def gsTopicPartition : List (V → T) := [tNum, tNum, tNum]
def tgTopicPartition (x : V) : T := .mk 0 [] false (tellAll gsTopicPartition (x.items.drop 0)) (uOf gsTopicPartition (x.items.drop 0))
theorem cbTopicPartition : CbM Tryd.prog 144 := cb_m (et := 5) (TL := 24) (bs := 32) Tryd.func144 (by kernel_rfl) rfl rfl rfl (by kernel_rfl) treeT (by kernel_rfl) (by kernel_rfl) (by decide) tagF tagT (by kernel_rfl) octT
theorem tlTopicPartition : TellM Tryd.prog 108 (.st (tTopicPartition)) tgTopicPartition := by
  refine tell_root (pre := []) (tys := tTopicPartition) (st := 3) (m := 4) treeT Tryd.func108 (by kernel_rfl) rfl rfl rfl ?_ rfl rfl (by decide) (by decide)
  refine TRun.cons (o' := 1) (tl_num treeT (by kernel_rfl) (by kernel_rfl) (by kernel_rfl) (by kernel_rfl) (by kernel_rfl) (by decide) (by decide)) ?_ rfl (by decide)
  refine TRun.cons (o' := 2) (tl_num treeT (by kernel_rfl) (by kernel_rfl) (by kernel_rfl) (by kernel_rfl) (by kernel_rfl) (by decide) (by decide)) ?_ rfl (by decide)
  refine TRun.cons (o' := 3) (tl_n64 treeT (by kernel_rfl) (by kernel_rfl) (by kernel_rfl) (by decide)) ?_ rfl (by decide)
  exact TRun.tags treeT eachM cbTopicPartition sortedM (by kernel_rfl) (by kernel_rfl) (by decide)
def gsTopic : List (V → T) := [tUuid, fun x => .mk 0 [] x.isNil (x.items.map tgTopicPartition) []]
def tgTopic (x : V) : T := .mk 0 [] false (tellAll gsTopic (x.items.drop 0)) (uOf gsTopic (x.items.drop 0))
theorem cbTopic : CbM Tryd.prog 109 := cb_m (et := 5) (TL := 24) (bs := 32) Tryd.func109 (by kernel_rfl) rfl rfl rfl (by kernel_rfl) treeT (by kernel_rfl) (by kernel_rfl) (by decide) tagF tagT (by kernel_rfl) octT
theorem tlTopic : TellM Tryd.prog 69 (.st (tTopic)) tgTopic := by
  refine tell_root (pre := []) (tys := tTopic) (st := 3) (m := 4) treeT Tryd.func69 (by kernel_rfl) rfl rfl rfl ?_ rfl rfl (by decide) (by decide)
  refine TRun.cons (o' := 16) (tl_uuid treeT (by kernel_rfl) (by kernel_rfl) uuidT (by kernel_rfl) octT (by decide)) ?_ rfl (by decide)
  refine TRun.cons2 (o' := 17) (tl_null treeT (by kernel_rfl) (by kernel_rfl) (by kernel_rfl) (by kernel_rfl) (by kernel_rfl) (by decide)) (tl_loop (m2 := 35) treeT (app_call1 treeT tlTopicPartition rfl (by kernel_rfl) (by kernel_rfl) (by kernel_rfl) (by kernel_rfl) (by decide)) (app_call2 treeT tlTopicPartition (by kernel_rfl) (by kernel_rfl) (by kernel_rfl) (by kernel_rfl) (by decide)) boolT (by kernel_rfl) (by kernel_rfl) (by kernel_rfl) (by kernel_rfl) (by kernel_rfl) (by decide)) ?_ rfl (by decide)
  exact TRun.tags treeT eachM cbTopic sortedM (by kernel_rfl) (by kernel_rfl) (by decide)
def gsR : List (V → T) := [tStr, fun x => .mk 0 [] x.isNil (x.items.map tgTopic) []]
def tgR (x : V) : T := .mk 0 [] false (tellAll gsR (x.items.drop 1)) (uOf gsR (x.items.drop 1))
theorem cbR : CbM Tryd.prog 71 := cb_m (et := 5) (TL := 24) (bs := 32) Tryd.func71 (by kernel_rfl) rfl rfl rfl (by kernel_rfl) treeT (by kernel_rfl) (by kernel_rfl) (by decide) tagF tagT (by kernel_rfl) octT
theorem tlR : TellM Tryd.prog 34 (.st (.int .i16 :: tR)) tgR := by
  refine tell_root (pre := [.int .i16]) (tys := tR) (st := 3) (m := 4) treeT Tryd.func34 (by kernel_rfl) rfl rfl rfl ?_ rfl rfl (by decide) (by decide)
  refine TRun.cons (o' := 2) (tl_str treeT (by kernel_rfl) (by kernel_rfl) (by kernel_rfl) (by kernel_rfl) (by kernel_rfl) (by decide)) ?_ rfl (by decide)
  refine TRun.cons2 (o' := 3) (tl_null treeT (by kernel_rfl) (by kernel_rfl) (by kernel_rfl) (by kernel_rfl) (by kernel_rfl) (by decide)) (tl_loop (m2 := 35) treeT (app_call1 treeT tlTopic rfl (by kernel_rfl) (by kernel_rfl) (by kernel_rfl) (by kernel_rfl) (by decide)) (app_call2 treeT tlTopic (by kernel_rfl) (by kernel_rfl) (by kernel_rfl) (by kernel_rfl) (by decide)) boolT (by kernel_rfl) (by kernel_rfl) (by kernel_rfl) (by kernel_rfl) (by kernel_rfl) (by decide)) ?_ rfl (by decide)
  exact TRun.tags treeT eachM cbR sortedM (by kernel_rfl) (by kernel_rfl) (by decide)
theorem setM : SetM Tryd.prog 32 := set_m Tryd.func32 (by kernel_rfl) rfl rfl rfl (by kernel_rfl) (by kernel_rfl)
theorem newM : NewM Tryd.prog 30 (.int .i16 :: tR) [.n 0, .s [], .nil, .nil] := new_m (d := id) Tryd.func30 (by kernel_rfl) rfl rfl rfl (zeroB_is (by kernel_rfl)) dR (by decide)
theorem maxM : MaxM Tryd.prog 9 0 := maxd_m (tys := .int .i16 :: tR) (ds := [.n 0, .s [], .nil, .nil]) (mx := ((0 : Nat) : Int)) (fmx := 31) (fnw := 30) (f := 9) (P := Tryd.prog) Tryd.func9 (by kernel_rfl) rfl rfl rfl newM (maxv_m Tryd.func31 (by kernel_rfl) rfl rfl rfl) (by decide) (by kernel_rfl) (by kernel_rfl)
theorem rd1 : ReadD Tryd.prog 0 33 tR [.s [], .nil, .nil] fl gR := read_d rf Tryd.func33 (by kernel_rfl) rfl rfl rfl
theorem rd2 : ReadD Tryd.prog 0 35 tR [.s [], .nil, .nil] fl gR := read_d rf Tryd.func35 (by kernel_rfl) rfl rfl rfl
theorem door1 : DoorM Tryd.prog 0 10 (doorRes gR fl tgR) := door_m (te := 5) Tryd.func10 (by kernel_rfl) rfl rfl rfl treeT.flat (by kernel_rfl) (zeroB_is (by kernel_rfl)) (by kernel_rfl) (by kernel_rfl) (by kernel_rfl) newM setM rd1 tlR
theorem door2 : DoorM Tryd.prog 0 12 (doorRes gR fl tgR) := door_m (te := 5) Tryd.func12 (by kernel_rfl) rfl rfl rfl treeT.flat (by kernel_rfl) (zeroB_is (by kernel_rfl)) (by kernel_rfl) (by kernel_rfl) (by kernel_rfl) newM setM rd2 tlR
theorem law : LawU Tryd.prog 0 3 := lawu_m (mx := 0) (te := 5) Tryd.func3 (by kernel_rfl) rfl rfl rfl (by kernel_rfl) treeT.flat (by kernel_rfl) (by kernel_rfl) (by kernel_rfl) maxM (by decide) verM door1 door2 (enters_of Tryd.func14 (by kernel_rfl) rfl) gotM (enters_of Tryd.func13 (by kernel_rfl) rfl) sameTree
end Go.Proofs.YtekhigcoccepjaaDoor.InitializeShareGroupStateRequest
