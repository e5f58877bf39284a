/- The parts of the law on BrokerRegistrationRequest: what the codes that it reaches give. Printed by gen_msg.py. -/
import Derived.Test.YtokkeelmccdcaaaDoorKqCom
import Derived.Test.YtokkeelmccdcaaaDoorKqP04
set_option linter.unusedVariables false
set_option linter.unusedSimpArgs false
namespace Go.Proofs.YtokkeelmccdcaaaDoor.BrokerRegistrationRequest
open Go.Kq
def tListener : List Ty := [.str, .str, .int .u16, .int .i16, .tags]
def gListener : Rd := (rdCons (rdOne fun _ fl st => if fl then gCStr st else gStr st) (rdCons (rdOne fun _ fl st => if fl then gCStr st else gStr st) (rdCons (rdOne fun _ _ => gNum .u16 2) (rdCons (rdOne fun _ _ => gNum .i16 2) (rdCons rdTagsF rdSt0)))))
theorem dListener : DefM Tryd.prog 36 (tListener) id := def_skip Tryd.func36 (by kernel_rfl) (by kernel_rfl) (by kernel_rfl)
def tFeature : List Ty := [.str, .int .i16, .int .i16, .tags]
def gFeature : Rd := (rdCons (rdOne fun _ fl st => if fl then gCStr st else gStr st) (rdCons (rdOne fun _ _ => gNum .i16 2) (rdCons (rdOne fun _ _ => gNum .i16 2) (rdCons rdTagsF rdSt0))))
theorem dFeature : DefM Tryd.prog 40 (tFeature) id := def_skip Tryd.func40 (by kernel_rfl) (by kernel_rfl) (by kernel_rfl)
def tR : List Ty := [.int .i32, .str, .uuid, .arr (.st tListener), .arr (.st tFeature), .pstr, .bool, .arr .uuid, .int .i64, .tags]
def gR : Rd := (rdCons (rdOne fun _ _ => gNum .i32 4) (rdCons (rdOne fun _ fl st => if fl then gCStr st else gStr st) (rdCons (rdOne fun _ _ => gUuid) (rdCons (rdArr (fun _ fl st => if fl then gCALen st else gALen st) gListener) (rdCons (rdArr (fun _ fl st => if fl then gCALen st else gALen st) gFeature) (rdCons (rdOne fun _ fl st => if fl then gCNStr st else gNStr st) (rdCons (rdIf (fun v => decide (v ≥ 1)) (.n 0) (rdOne fun _ _ => gBool)) (rdCons (rdIf (fun v => decide (v ≥ 2)) (.nil) (rdArr (fun _ fl st => if fl then gCALen st else gALen st) (rdOne fun _ _ => gUuid))) (rdCons (rdIf (fun v => decide (v ≥ 3)) (.n (-1)) (rdOne fun _ _ => gNum .i64 8)) (rdCons rdTagsF rdSt0))))))))))
theorem dR : DefM Tryd.prog 17 (.int .i16 :: tR) (fun xs => (xs.set 9 (.n (-1)))) := def_sets (N := 5) Tryd.func17 (by kernel_rfl) rfl rfl (by decide) rfl (DRun.one (i := 9) (ty := .int .i64) (x := .n (-1)) (by kernel_rfl) (by kernel_rfl) rfl rfl rfl rfl (fun w => ⟨_, rfl, rfl, by decide, by decide⟩) (by decide))
def fl : Int → Bool := fun v => decide (v ≥ 0)
set_option maxRecDepth 20000 in
theorem rf : ReadM Tryd.prog 1 18 tR [.n 0, .s [], .s uuid0, .nil, .nil, .nil, .n 0, .nil, .n (-1), .nil] fl gR := by
  refine root Tryd.func18 (by kernel_rfl) rfl rfl rfl ?_ dR (fun _ => rfl) readerT (by kernel_rfl) (by kernel_rfl) (isL_cons (isL_cons (isL_cons (isL_cons (isL_cons (isL_cons (isL_cons (isL_cons (isL_cons (isL_cons isL_nil)))))))))) (by decide);refine bdy_fl ?_ (by decide);refine Run.cons (m := 11) (o' := 2) ?_ ?_ rfl (by decide) (by decide) (isL_cons (isL_cons (isL_cons (isL_cons (isL_cons (isL_cons (isL_cons (isL_cons (isL_cons isL_nil)))))))))
  · skip
    exact (fld_asg (asg_call mInt32 (by decide)) (by kernel_rfl) (by kernel_rfl) rfl (by decide))
  refine Run.cons (m := 12) (o' := 3) ?_ ?_ rfl (by decide) (by decide) (isL_cons (isL_cons (isL_cons (isL_cons (isL_cons (isL_cons (isL_cons (isL_cons isL_nil))))))))
  · skip
    exact (fld_var (fld_asg (asg_uns (asg_flex (u := 9) (asg_call mUnsafeCompactString (by decide)) (asg_call mUnsafeString (by decide)) rfl (by decide)) (asg_flex (u := 9) (asg_call mCompactString (by decide)) (asg_call mString (by decide)) rfl (by decide)) (by decide)) (by kernel_rfl) (by kernel_rfl) rfl (by decide)) (by decide))
  refine Run.cons (m := 13) (o' := 19) ?_ ?_ rfl (by decide) (by decide) (isL_cons (isL_cons (isL_cons (isL_cons (isL_cons (isL_cons (isL_cons isL_nil)))))))
  · skip
    exact (fld_uuid mUuid uuidT (by kernel_rfl) (by decide))
  refine Run.cons (m := 14) (o' := 20) ?_ ?_ rfl (by decide) (by decide) (isL_cons (isL_cons (isL_cons (isL_cons (isL_cons (isL_cons isL_nil))))))
  · skip
    refine fld_arr (m' := 18) (e0 := 67) (bs := 48) okM completeM (asg_flex (u := 9) (asg_call mCompactArrayLen (by decide)) (asg_call mArrayLen (by decide)) rfl (by decide)) ?_ (by kernel_rfl) (by decide) (by kernel_rfl) (by kernel_rfl) (by kernel_rfl) (zeroB_is (z := [.string ⟨#[]⟩, .string ⟨#[]⟩, .int .u16 0, .int .i16 0, .map none]) (by kernel_rfl)) rfl rfl (by decide);refine elt_st (m' := 20) (et := 67) (z0 := [.s [], .s [], .n 0, .n 0, .nil]) (bs := 48) ?_ dListener ?_ (by kernel_rfl) (by decide)
    · skip
      refine Fld.cons (m := 20) (m' := 21) (o' := 1) ?_ ?_ rfl (by decide) (by decide) (by decide)
      · skip
        exact (fld_var (fld_asg (asg_uns (asg_flex (u := 9) (asg_call mUnsafeCompactString (by decide)) (asg_call mUnsafeString (by decide)) rfl (by decide)) (asg_flex (u := 9) (asg_call mCompactString (by decide)) (asg_call mString (by decide)) rfl (by decide)) (by decide)) (by kernel_rfl) (by kernel_rfl) rfl (by decide)) (by decide))
      refine Fld.cons (m := 21) (m' := 22) (o' := 2) ?_ ?_ rfl (by decide) (by decide) (by decide)
      · skip
        exact (fld_var (fld_asg (asg_uns (asg_flex (u := 9) (asg_call mUnsafeCompactString (by decide)) (asg_call mUnsafeString (by decide)) rfl (by decide)) (asg_flex (u := 9) (asg_call mCompactString (by decide)) (asg_call mString (by decide)) rfl (by decide)) (by decide)) (by kernel_rfl) (by kernel_rfl) rfl (by decide)) (by decide))
      refine Fld.cons (m := 22) (m' := 23) (o' := 3) ?_ ?_ rfl (by decide) (by decide) (by decide)
      · skip
        exact (fld_asg (asg_call mUint16 (by decide)) (by kernel_rfl) (by kernel_rfl) rfl (by decide))
      refine Fld.cons (m := 23) (m' := 136) (o' := 4) ?_ ?_ rfl (by decide) (by decide) (by decide)
      · skip
        exact (fld_asg (asg_call mInt16 (by decide)) (by kernel_rfl) (by kernel_rfl) rfl (by decide))
      refine Fld.one ?_;exact (fld_tags (tf := 9) mTags (flatB_is (by kernel_rfl)) (by kernel_rfl) rfl (by decide))
    exact fun w => reps_zero tListener
  refine Run.cons (m := 24) (o' := 21) ?_ ?_ rfl (by decide) (by decide) (isL_cons (isL_cons (isL_cons (isL_cons (isL_cons isL_nil)))))
  · skip
    refine fld_arr (m' := 28) (e0 := 71) (bs := 32) okM completeM (asg_flex (u := 9) (asg_call mCompactArrayLen (by decide)) (asg_call mArrayLen (by decide)) rfl (by decide)) ?_ (by kernel_rfl) (by decide) (by kernel_rfl) (by kernel_rfl) (by kernel_rfl) (zeroB_is (z := [.string ⟨#[]⟩, .int .i16 0, .int .i16 0, .map none]) (by kernel_rfl)) rfl rfl (by decide);refine elt_st (m' := 30) (et := 71) (z0 := [.s [], .n 0, .n 0, .nil]) (bs := 32) ?_ dFeature ?_ (by kernel_rfl) (by decide)
    · skip
      refine Fld.cons (m := 30) (m' := 31) (o' := 1) ?_ ?_ rfl (by decide) (by decide) (by decide)
      · skip
        exact (fld_var (fld_asg (asg_uns (asg_flex (u := 9) (asg_call mUnsafeCompactString (by decide)) (asg_call mUnsafeString (by decide)) rfl (by decide)) (asg_flex (u := 9) (asg_call mCompactString (by decide)) (asg_call mString (by decide)) rfl (by decide)) (by decide)) (by kernel_rfl) (by kernel_rfl) rfl (by decide)) (by decide))
      refine Fld.cons (m := 31) (m' := 32) (o' := 2) ?_ ?_ rfl (by decide) (by decide) (by decide)
      · skip
        exact (fld_asg (asg_call mInt16 (by decide)) (by kernel_rfl) (by kernel_rfl) rfl (by decide))
      refine Fld.cons (m := 32) (m' := 196) (o' := 3) ?_ ?_ rfl (by decide) (by decide) (by decide)
      · skip
        exact (fld_asg (asg_call mInt16 (by decide)) (by kernel_rfl) (by kernel_rfl) rfl (by decide))
      refine Fld.one ?_;exact (fld_tags (tf := 9) mTags (flatB_is (by kernel_rfl)) (by kernel_rfl) rfl (by decide))
    exact fun w => reps_zero tFeature
  refine Run.cons (m := 33) (o' := 22) ?_ ?_ rfl (by decide) (by decide) (isL_cons (isL_cons (isL_cons (isL_cons isL_nil))))
  · skip
    exact (fld_var (fld_asg (asg_flex (u := 9) (asg_uns (asg_call mUnsafeCompactNullableString (by decide)) (asg_call mCompactNullableString (by decide)) (by decide)) (asg_uns (asg_call mUnsafeNullableString (by decide)) (asg_call mNullableString (by decide)) (by decide)) rfl (by decide)) (by kernel_rfl) (by kernel_rfl) rfl (by decide)) (by decide))
  refine Run.cons (m := 34) (o' := 23) ?_ ?_ rfl (by decide) (by decide) (isL_cons (isL_cons (isL_cons isL_nil)))
  · skip
    exact (fld_if (fld_asg (asg_call mBool (by decide)) (by kernel_rfl) (by kernel_rfl) rfl (by decide)) (fun i => rfl) (by decide))
  refine Run.cons (m := 35) (o' := 24) ?_ ?_ rfl (by decide) (by decide) (isL_cons (isL_cons isL_nil))
  · skip
    refine fld_if ?_ (fun i => rfl) (by decide);refine fld_arr (m' := 39) (e0 := 52) (bs := 16) okM completeM (asg_flex (u := 9) (asg_call mCompactArrayLen (by decide)) (asg_call mArrayLen (by decide)) rfl (by decide)) ?_ (by kernel_rfl) (by decide) (by kernel_rfl) (by kernel_rfl) (by kernel_rfl) (zeroB_is (z := [.int .u8 0, .int .u8 0, .int .u8 0, .int .u8 0, .int .u8 0, .int .u8 0, .int .u8 0, .int .u8 0, .int .u8 0, .int .u8 0, .int .u8 0, .int .u8 0, .int .u8 0, .int .u8 0, .int .u8 0, .int .u8 0]) (by kernel_rfl)) rfl rfl (by decide);exact elt_uuid (et := 52) (bs := 16) mUuid uuidT (by kernel_rfl) (by decide)
  refine Run.cons (m := 40) (o' := 25) ?_ ?_ rfl (by decide) (by decide) (isL_cons isL_nil)
  · skip
    exact (fld_if (fld_asg (asg_call mInt64 (by decide)) (by kernel_rfl) (by kernel_rfl) rfl (by decide)) (fun i => rfl) (by decide))
  refine Run.cons (m := 266) (o' := 26) ?_ ?_ rfl (by decide) (by decide) isL_nil
  · skip
    exact (fld_tags (tf := 9) mTags (flatB_is (by kernel_rfl)) (by kernel_rfl) rfl (by decide))
  exact run_end completeM (by decide)
def gsListener : List (V → T) := [tStr, tStr, tNum, tNum]
def tgListener (x : V) : T := .mk 0 [] false (tellAll gsListener (x.items.drop 0)) (uOf gsListener (x.items.drop 0))
theorem cbListener : CbM Tryd.prog 47 := cb_m (et := 5) (TL := 24) (bs := 32) Tryd.func47 (by kernel_rfl) rfl rfl rfl (by kernel_rfl) treeT (by kernel_rfl) (by kernel_rfl) (by decide) tagF tagT (by kernel_rfl) octT
theorem tlListener : TellM Tryd.prog 19 (.st (tListener)) tgListener := by
  refine tell_root (pre := []) (tys := tListener) (st := 3) (m := 4) treeT Tryd.func19 (by kernel_rfl) rfl rfl rfl ?_ rfl rfl (by decide) (by decide);refine TRun.cons (o' := 1) (tl_str treeT (by kernel_rfl) (by kernel_rfl) (by kernel_rfl) (by kernel_rfl) (by kernel_rfl) (by decide)) ?_ rfl (by decide);refine TRun.cons (o' := 2) (tl_str treeT (by kernel_rfl) (by kernel_rfl) (by kernel_rfl) (by kernel_rfl) (by kernel_rfl) (by decide)) ?_ rfl (by decide);refine TRun.cons (o' := 3) (tl_num treeT (by kernel_rfl) (by kernel_rfl) (by kernel_rfl) (by kernel_rfl) (by kernel_rfl) (by decide) (by decide)) ?_ rfl (by decide);refine TRun.cons (o' := 4) (tl_num treeT (by kernel_rfl) (by kernel_rfl) (by kernel_rfl) (by kernel_rfl) (by kernel_rfl) (by decide) (by decide)) ?_ rfl (by decide);exact TRun.tags treeT eachM cbListener sortedM (by kernel_rfl) (by kernel_rfl) (by decide)
def gsFeature : List (V → T) := [tStr, tNum, tNum]
def tgFeature (x : V) : T := .mk 0 [] false (tellAll gsFeature (x.items.drop 0)) (uOf gsFeature (x.items.drop 0))
theorem cbFeature : CbM Tryd.prog 48 := cb_m (et := 5) (TL := 24) (bs := 32) Tryd.func48 (by kernel_rfl) rfl rfl rfl (by kernel_rfl) treeT (by kernel_rfl) (by kernel_rfl) (by decide) tagF tagT (by kernel_rfl) octT
theorem tlFeature : TellM Tryd.prog 20 (.st (tFeature)) tgFeature := by
  refine tell_root (pre := []) (tys := tFeature) (st := 3) (m := 4) treeT Tryd.func20 (by kernel_rfl) rfl rfl rfl ?_ rfl rfl (by decide) (by decide);refine TRun.cons (o' := 1) (tl_str treeT (by kernel_rfl) (by kernel_rfl) (by kernel_rfl) (by kernel_rfl) (by kernel_rfl) (by decide)) ?_ rfl (by decide);refine TRun.cons (o' := 2) (tl_num treeT (by kernel_rfl) (by kernel_rfl) (by kernel_rfl) (by kernel_rfl) (by kernel_rfl) (by decide) (by decide)) ?_ rfl (by decide);refine TRun.cons (o' := 3) (tl_num treeT (by kernel_rfl) (by kernel_rfl) (by kernel_rfl) (by kernel_rfl) (by kernel_rfl) (by decide) (by decide)) ?_ rfl (by decide);exact TRun.tags treeT eachM cbFeature sortedM (by kernel_rfl) (by kernel_rfl) (by decide)
def gsR : List (V → T) := [tNum, tStr, tUuid, fun x => .mk 0 [] x.isNil (x.items.map tgListener) [], fun x => .mk 0 [] x.isNil (x.items.map tgFeature) [], tText, tBool, fun x => .mk 0 [] x.isNil (x.items.map tUuid) [], tNum]
def tgR (x : V) : T := .mk 0 [] false (tellAll gsR (x.items.drop 1)) (uOf gsR (x.items.drop 1))
theorem cbR : CbM Tryd.prog 24 := cb_m (et := 5) (TL := 24) (bs := 32) Tryd.func24 (by kernel_rfl) rfl rfl rfl (by kernel_rfl) treeT (by kernel_rfl) (by kernel_rfl) (by decide) tagF tagT (by kernel_rfl) octT
theorem tlR : TellM Tryd.prog 14 (.st (.int .i16 :: tR)) tgR := by
  refine tell_root (pre := [.int .i16]) (tys := tR) (st := 3) (m := 4) treeT Tryd.func14 (by kernel_rfl) rfl rfl rfl ?_ rfl rfl (by decide) (by decide);refine TRun.cons (o' := 2) (tl_num treeT (by kernel_rfl) (by kernel_rfl) (by kernel_rfl) (by kernel_rfl) (by kernel_rfl) (by decide) (by decide)) ?_ rfl (by decide);refine TRun.cons (o' := 3) (tl_str treeT (by kernel_rfl) (by kernel_rfl) (by kernel_rfl) (by kernel_rfl) (by kernel_rfl) (by decide)) ?_ rfl (by decide);refine TRun.cons (o' := 19) (tl_uuid treeT (by kernel_rfl) (by kernel_rfl) uuidT (by kernel_rfl) octT (by decide)) ?_ rfl (by decide);refine TRun.cons2 (o' := 20) (tl_null treeT (by kernel_rfl) (by kernel_rfl) (by kernel_rfl) (by kernel_rfl) (by kernel_rfl) (by decide)) (tl_loop (m2 := 55) treeT (app_call1 treeT tlListener rfl (by kernel_rfl) (by kernel_rfl) (by kernel_rfl) (by kernel_rfl) (by decide)) (app_call2 treeT tlListener (by kernel_rfl) (by kernel_rfl) (by kernel_rfl) (by kernel_rfl) (by decide)) boolT (by kernel_rfl) (by kernel_rfl) (by kernel_rfl) (by kernel_rfl) (by kernel_rfl) (by decide)) ?_ rfl (by decide);refine TRun.cons2 (o' := 21) (tl_null treeT (by kernel_rfl) (by kernel_rfl) (by kernel_rfl) (by kernel_rfl) (by kernel_rfl) (by decide)) (tl_loop (m2 := 111) treeT (app_call1 treeT tlFeature rfl (by kernel_rfl) (by kernel_rfl) (by kernel_rfl) (by kernel_rfl) (by decide)) (app_call2 treeT tlFeature (by kernel_rfl) (by kernel_rfl) (by kernel_rfl) (by kernel_rfl) (by decide)) boolT (by kernel_rfl) (by kernel_rfl) (by kernel_rfl) (by kernel_rfl) (by kernel_rfl) (by decide)) ?_ rfl (by decide);refine TRun.cons (o' := 22) (tl_fn treeT textM (by kernel_rfl) (by kernel_rfl) (by kernel_rfl) rfl (by decide)) ?_ rfl (by decide);refine TRun.cons (o' := 23) (tl_fn treeT boolM (by kernel_rfl) (by kernel_rfl) (by kernel_rfl) rfl (by decide)) ?_ rfl (by decide);refine TRun.cons2 (o' := 24) (tl_null treeT (by kernel_rfl) (by kernel_rfl) (by kernel_rfl) (by kernel_rfl) (by kernel_rfl) (by decide)) (tl_loop (m2 := 183) treeT (app_uuid1 treeT uuidT (by kernel_rfl) octT rfl (by kernel_rfl) (by kernel_rfl) (by kernel_rfl) (by kernel_rfl) (by decide)) (app_uuid2 treeT uuidT (by kernel_rfl) octT (by kernel_rfl) (by kernel_rfl) (by kernel_rfl) (by kernel_rfl) (by decide)) boolT (by kernel_rfl) (by kernel_rfl) (by kernel_rfl) (by kernel_rfl) (by kernel_rfl) (by decide)) ?_ rfl (by decide);refine TRun.cons (o' := 25) (tl_n64 treeT (by kernel_rfl) (by kernel_rfl) (by kernel_rfl) (by decide)) ?_ rfl (by decide);exact TRun.tags treeT eachM cbR sortedM (by kernel_rfl) (by kernel_rfl) (by decide)
theorem setM : SetM Tryd.prog 12 := set_m Tryd.func12 (by kernel_rfl) rfl rfl rfl (by kernel_rfl) (by kernel_rfl)
theorem newM : NewM Tryd.prog 10 (.int .i16 :: tR) [.n 0, .n 0, .s [], .s uuid0, .nil, .nil, .nil, .n 0, .nil, .n (-1), .nil] := new_m (d := (fun xs => (xs.set 9 (.n (-1))))) Tryd.func10 (by kernel_rfl) rfl rfl rfl (zeroB_is (by kernel_rfl)) dR (by decide)
theorem maxM : MaxM Tryd.prog 4 4 := maxd_m (tys := .int .i16 :: tR) (ds := [.n 0, .n 0, .s [], .s uuid0, .nil, .nil, .nil, .n 0, .nil, .n (-1), .nil]) (mx := ((4 : Nat) : Int)) (fmx := 11) (fnw := 10) (f := 4) (P := Tryd.prog) Tryd.func4 (by kernel_rfl) rfl rfl rfl newM (maxv_m Tryd.func11 (by kernel_rfl) rfl rfl rfl) (by decide) (by kernel_rfl) (by kernel_rfl)
theorem rd1 : ReadD Tryd.prog 1 13 tR [.n 0, .s [], .s uuid0, .nil, .nil, .nil, .n 0, .nil, .n (-1), .nil] fl gR := read_d rf Tryd.func13 (by kernel_rfl) rfl rfl rfl
theorem rd2 : ReadD Tryd.prog 1 15 tR [.n 0, .s [], .s uuid0, .nil, .nil, .nil, .n 0, .nil, .n (-1), .nil] fl gR := read_d rf Tryd.func15 (by kernel_rfl) rfl rfl rfl
theorem door1 : DoorM Tryd.prog 1 5 (doorRes gR fl tgR) := door_m (te := 5) Tryd.func5 (by kernel_rfl) rfl rfl rfl treeT.flat (by kernel_rfl) (zeroB_is (by kernel_rfl)) (by kernel_rfl) (by kernel_rfl) (by kernel_rfl) newM setM rd1 tlR
theorem door2 : DoorM Tryd.prog 1 7 (doorRes gR fl tgR) := door_m (te := 5) Tryd.func7 (by kernel_rfl) rfl rfl rfl treeT.flat (by kernel_rfl) (zeroB_is (by kernel_rfl)) (by kernel_rfl) (by kernel_rfl) (by kernel_rfl) newM setM rd2 tlR
theorem law : LawU Tryd.prog 1 3 := lawu_m (mx := 4) (te := 5) Tryd.func3 (by kernel_rfl) rfl rfl rfl (by kernel_rfl) treeT.flat (by kernel_rfl) (by kernel_rfl) (by kernel_rfl) maxM (by decide) verM door1 door2 (enters_of Tryd.func9 (by kernel_rfl) rfl) gotM (enters_of Tryd.func8 (by kernel_rfl) rfl) sameTree
end Go.Proofs.YtokkeelmccdcaaaDoor.BrokerRegistrationRequest
