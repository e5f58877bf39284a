/- The parts of the law on DescribeGroupsResponse: what the codes that it reaches give. Printed by gen_msg.py. -/
import Derived.Test.YtekhigcoccepjaaDoorKqCom
set_option linter.unusedVariables false
set_option linter.unusedSimpArgs false
namespace Go.Proofs.YtekhigcoccepjaaDoor.DescribeGroupsResponse
open Go.Kq
def tGroupMember : List Ty := [.str, .pstr, .str, .str, .bytes, .bytes, .tags]
def gGroupMember : Rd := (rdCons (rdOne fun _ fl st => if fl then gCStr st else gStr st) (rdCons (rdIf (fun v => decide (v ≥ 4)) (.nil) (rdOne fun _ fl st => if fl then gCNStr st else gNStr st)) (rdCons (rdOne fun _ fl st => if fl then gCStr st else gStr st) (rdCons (rdOne fun _ fl st => if fl then gCStr st else gStr st) (rdCons (rdOne fun _ fl st => if fl then gCBytes st else gBytes st) (rdCons (rdOne fun _ fl st => if fl then gCBytes st else gBytes st) (rdCons rdTagsF rdSt0)))))))
theorem dGroupMember : DefM Tryd.prog 133 (tGroupMember) id := def_skip Tryd.func133 (by kernel_rfl) (by kernel_rfl) (by kernel_rfl)
def tGroup : List Ty := [.int .i16, .pstr, .str, .str, .str, .str, .arr (.st tGroupMember), .int .i32, .tags]
def gGroup : Rd := (rdCons (rdOne fun _ _ => gNum .i16 2) (rdCons (rdIf (fun v => decide (v ≥ 6)) (.nil) (rdOne fun _ fl st => if fl then gCNStr st else gNStr st)) (rdCons (rdOne fun _ fl st => if fl then gCStr st else gStr st) (rdCons (rdOne fun _ fl st => if fl then gCStr st else gStr st) (rdCons (rdOne fun _ fl st => if fl then gCStr st else gStr st) (rdCons (rdOne fun _ fl st => if fl then gCStr st else gStr st) (rdCons (rdArr (fun _ fl st => if fl then gCALen st else gALen st) gGroupMember) (rdCons (rdIf (fun v => decide (v ≥ 3)) (.n (-2147483648)) (rdOne fun _ _ => gNum .i32 4)) (rdCons rdTagsF rdSt0)))))))))
theorem dGroup : DefM Tryd.prog 132 (tGroup) (fun xs => (xs.set 7 (.n (-2147483648)))) := def_sets (N := 5) Tryd.func132 (by kernel_rfl) rfl rfl (by decide) rfl (DRun.one (i := 7) (ty := .int .i32) (x := .n (-2147483648)) (by kernel_rfl) (by kernel_rfl) rfl rfl rfl rfl (fun w => ⟨_, rfl, rfl, by decide, by decide⟩) (by decide))
def tR : List Ty := [.int .i32, .arr (.st tGroup), .tags]
def gR : Rd := (rdCons (rdIf (fun v => decide (v ≥ 1)) (.n 0) (rdOne fun _ _ => gNum .i32 4)) (rdCons (rdArr (fun _ fl st => if fl then gCALen st else gALen st) gGroup) (rdCons rdTagsF rdSt0)))
theorem dR : DefM Tryd.prog 90 (.int .i16 :: tR) id := def_skip Tryd.func90 (by kernel_rfl) (by kernel_rfl) (by kernel_rfl)
def fl : Int → Bool := fun v => decide (v ≥ 5)
set_option maxRecDepth 20000 in
theorem rf : ReadM Tryd.prog 0 91 tR [.n 0, .nil, .nil] fl gR := by
  refine root Tryd.func91 (by kernel_rfl) rfl rfl rfl ?_ dR (fun _ => rfl) readerT (by kernel_rfl) (by kernel_rfl) (isL_cons (isL_cons (isL_cons isL_nil))) (by decide)
  refine bdy_fl ?_ (by decide)
  refine Run.cons (m := 11) (o' := 2) ?_ ?_ rfl (by decide) (by decide) (isL_cons (isL_cons isL_nil))
  · skip
    exact (fld_if (fld_asg (asg_call mInt32 (by decide)) (by kernel_rfl) (by kernel_rfl) rfl (by decide)) (fun i => rfl) (by decide))
  refine Run.cons (m := 12) (o' := 3) ?_ ?_ rfl (by decide) (by decide) (isL_cons isL_nil)
  · skip
    refine fld_arr (m' := 16) (e0 := 123) (bs := 120) okM completeM (asg_flex (u := 9) (asg_call mCompactArrayLen (by decide)) (asg_call mArrayLen (by decide)) rfl (by decide)) ?_ (by kernel_rfl) (by decide) (by kernel_rfl) (by kernel_rfl) (by kernel_rfl) (zeroB_is (z := [.int .i16 0, .pointer none, .string ⟨#[]⟩, .string ⟨#[]⟩, .string ⟨#[]⟩, .string ⟨#[]⟩, .slice none 0 0, .int .i32 0, .map none]) (by kernel_rfl)) rfl rfl (by decide)
    refine elt_st (m' := 18) (et := 123) (z0 := [.n 0, .nil, .s [], .s [], .s [], .s [], .nil, .n 0, .nil]) (bs := 120) ?_ dGroup ?_ (by kernel_rfl) (by decide)
    · skip
      refine Fld.cons (m := 18) (m' := 19) (o' := 1) ?_ ?_ rfl (by decide) (by decide) (by decide)
      · skip
        exact (fld_asg (asg_call mInt16 (by decide)) (by kernel_rfl) (by kernel_rfl) rfl (by decide))
      refine Fld.cons (m := 19) (m' := 20) (o' := 2) ?_ ?_ rfl (by decide) (by decide) (by decide)
      · skip
        exact (fld_if (fld_var (fld_asg (asg_flex (u := 9) (asg_uns (asg_call mUnsafeCompactNullableString (by decide)) (asg_call mCompactNullableString (by decide)) (by decide)) (asg_uns (asg_call mUnsafeNullableString (by decide)) (asg_call mNullableString (by decide)) (by decide)) rfl (by decide)) (by kernel_rfl) (by kernel_rfl) rfl (by decide)) (by decide)) (fun i => rfl) (by decide))
      refine Fld.cons (m := 20) (m' := 21) (o' := 3) ?_ ?_ rfl (by decide) (by decide) (by decide)
      · skip
        exact (fld_var (fld_asg (asg_uns (asg_flex (u := 9) (asg_call mUnsafeCompactString (by decide)) (asg_call mUnsafeString (by decide)) rfl (by decide)) (asg_flex (u := 9) (asg_call mCompactString (by decide)) (asg_call mString (by decide)) rfl (by decide)) (by decide)) (by kernel_rfl) (by kernel_rfl) rfl (by decide)) (by decide))
      refine Fld.cons (m := 21) (m' := 22) (o' := 4) ?_ ?_ rfl (by decide) (by decide) (by decide)
      · skip
        exact (fld_var (fld_asg (asg_uns (asg_flex (u := 9) (asg_call mUnsafeCompactString (by decide)) (asg_call mUnsafeString (by decide)) rfl (by decide)) (asg_flex (u := 9) (asg_call mCompactString (by decide)) (asg_call mString (by decide)) rfl (by decide)) (by decide)) (by kernel_rfl) (by kernel_rfl) rfl (by decide)) (by decide))
      refine Fld.cons (m := 22) (m' := 23) (o' := 5) ?_ ?_ rfl (by decide) (by decide) (by decide)
      · skip
        exact (fld_var (fld_asg (asg_uns (asg_flex (u := 9) (asg_call mUnsafeCompactString (by decide)) (asg_call mUnsafeString (by decide)) rfl (by decide)) (asg_flex (u := 9) (asg_call mCompactString (by decide)) (asg_call mString (by decide)) rfl (by decide)) (by decide)) (by kernel_rfl) (by kernel_rfl) rfl (by decide)) (by decide))
      refine Fld.cons (m := 23) (m' := 24) (o' := 6) ?_ ?_ rfl (by decide) (by decide) (by decide)
      · skip
        exact (fld_var (fld_asg (asg_uns (asg_flex (u := 9) (asg_call mUnsafeCompactString (by decide)) (asg_call mUnsafeString (by decide)) rfl (by decide)) (asg_flex (u := 9) (asg_call mCompactString (by decide)) (asg_call mString (by decide)) rfl (by decide)) (by decide)) (by kernel_rfl) (by kernel_rfl) rfl (by decide)) (by decide))
      refine Fld.cons (m := 24) (m' := 36) (o' := 7) ?_ ?_ rfl (by decide) (by decide) (by decide)
      · skip
        refine fld_arr (m' := 28) (e0 := 155) (bs := 112) okM completeM (asg_flex (u := 9) (asg_call mCompactArrayLen (by decide)) (asg_call mArrayLen (by decide)) rfl (by decide)) ?_ (by kernel_rfl) (by decide) (by kernel_rfl) (by kernel_rfl) (by kernel_rfl) (zeroB_is (z := [.string ⟨#[]⟩, .pointer none, .string ⟨#[]⟩, .string ⟨#[]⟩, .slice none 0 0, .slice none 0 0, .map none]) (by kernel_rfl)) rfl rfl (by decide)
        refine elt_st (m' := 30) (et := 155) (z0 := [.s [], .nil, .s [], .s [], .nil, .nil, .nil]) (bs := 112) ?_ dGroupMember ?_ (by kernel_rfl) (by decide)
        · skip
          refine Fld.cons (m := 30) (m' := 31) (o' := 1) ?_ ?_ rfl (by decide) (by decide) (by decide)
          · skip
            exact (fld_var (fld_asg (asg_uns (asg_flex (u := 9) (asg_call mUnsafeCompactString (by decide)) (asg_call mUnsafeString (by decide)) rfl (by decide)) (asg_flex (u := 9) (asg_call mCompactString (by decide)) (asg_call mString (by decide)) rfl (by decide)) (by decide)) (by kernel_rfl) (by kernel_rfl) rfl (by decide)) (by decide))
          refine Fld.cons (m := 31) (m' := 32) (o' := 2) ?_ ?_ rfl (by decide) (by decide) (by decide)
          · skip
            exact (fld_if (fld_var (fld_asg (asg_flex (u := 9) (asg_uns (asg_call mUnsafeCompactNullableString (by decide)) (asg_call mCompactNullableString (by decide)) (by decide)) (asg_uns (asg_call mUnsafeNullableString (by decide)) (asg_call mNullableString (by decide)) (by decide)) rfl (by decide)) (by kernel_rfl) (by kernel_rfl) rfl (by decide)) (by decide)) (fun i => rfl) (by decide))
          refine Fld.cons (m := 32) (m' := 33) (o' := 3) ?_ ?_ rfl (by decide) (by decide) (by decide)
          · skip
            exact (fld_var (fld_asg (asg_uns (asg_flex (u := 9) (asg_call mUnsafeCompactString (by decide)) (asg_call mUnsafeString (by decide)) rfl (by decide)) (asg_flex (u := 9) (asg_call mCompactString (by decide)) (asg_call mString (by decide)) rfl (by decide)) (by decide)) (by kernel_rfl) (by kernel_rfl) rfl (by decide)) (by decide))
          refine Fld.cons (m := 33) (m' := 34) (o' := 4) ?_ ?_ rfl (by decide) (by decide) (by decide)
          · skip
            exact (fld_var (fld_asg (asg_uns (asg_flex (u := 9) (asg_call mUnsafeCompactString (by decide)) (asg_call mUnsafeString (by decide)) rfl (by decide)) (asg_flex (u := 9) (asg_call mCompactString (by decide)) (asg_call mString (by decide)) rfl (by decide)) (by decide)) (by kernel_rfl) (by kernel_rfl) rfl (by decide)) (by decide))
          refine Fld.cons (m := 34) (m' := 35) (o' := 5) ?_ ?_ rfl (by decide) (by decide) (by decide)
          · skip
            exact (fld_var (fld_asg (asg_flex (u := 9) (asg_call mCompactBytes (by decide)) (asg_call mBytes (by decide)) rfl (by decide)) (by kernel_rfl) (by kernel_rfl) rfl (by decide)) (by decide))
          refine Fld.cons (m := 35) (m' := 237) (o' := 6) ?_ ?_ rfl (by decide) (by decide) (by decide)
          · skip
            exact (fld_var (fld_asg (asg_flex (u := 9) (asg_call mCompactBytes (by decide)) (asg_call mBytes (by decide)) rfl (by decide)) (by kernel_rfl) (by kernel_rfl) rfl (by decide)) (by decide))
          refine Fld.one ?_
          exact (fld_tags (tf := 9) mTags (flatB_is (by kernel_rfl)) (by kernel_rfl) rfl (by decide))
        · exact fun w => reps_zero tGroupMember
      refine Fld.cons (m := 36) (m' := 254) (o' := 8) ?_ ?_ rfl (by decide) (by decide) (by decide)
      · skip
        exact (fld_if (fld_asg (asg_call mInt32 (by decide)) (by kernel_rfl) (by kernel_rfl) rfl (by decide)) (fun i => rfl) (by decide))
      refine Fld.one ?_
      exact (fld_tags (tf := 9) mTags (flatB_is (by kernel_rfl)) (by kernel_rfl) rfl (by decide))
    · exact fun w => reps_zero tGroup
  refine Run.cons (m := 264) (o' := 4) ?_ ?_ rfl (by decide) (by decide) isL_nil
  · skip
    exact (fld_tags (tf := 9) mTags (flatB_is (by kernel_rfl)) (by kernel_rfl) rfl (by decide))
  exact run_end completeM (by decide)
def gsGroupMember : List (V → T) := [tStr, tText, tStr, tStr, tOcts, tOcts]
def tgGroupMember (x : V) : T := .mk 0 [] false (tellAll gsGroupMember (x.items.drop 0)) (uOf gsGroupMember (x.items.drop 0))
theorem cbGroupMember : CbM Tryd.prog 154 := cb_m (et := 5) (TL := 24) (bs := 32) Tryd.func154 (by kernel_rfl) rfl rfl rfl (by kernel_rfl) treeT (by kernel_rfl) (by kernel_rfl) (by decide) tagF tagT (by kernel_rfl) octT
theorem tlGroupMember : TellM Tryd.prog 136 (.st (tGroupMember)) tgGroupMember := by
  refine tell_root (pre := []) (tys := tGroupMember) (st := 3) (m := 4) treeT Tryd.func136 (by kernel_rfl) rfl rfl rfl ?_ rfl rfl (by decide) (by decide)
  refine TRun.cons (o' := 1) (tl_str treeT (by kernel_rfl) (by kernel_rfl) (by kernel_rfl) (by kernel_rfl) (by kernel_rfl) (by decide)) ?_ rfl (by decide)
  refine TRun.cons (o' := 2) (tl_fn treeT textM (by kernel_rfl) (by kernel_rfl) (by kernel_rfl) rfl (by decide)) ?_ rfl (by decide)
  refine TRun.cons (o' := 3) (tl_str treeT (by kernel_rfl) (by kernel_rfl) (by kernel_rfl) (by kernel_rfl) (by kernel_rfl) (by decide)) ?_ rfl (by decide)
  refine TRun.cons (o' := 4) (tl_str treeT (by kernel_rfl) (by kernel_rfl) (by kernel_rfl) (by kernel_rfl) (by kernel_rfl) (by decide)) ?_ rfl (by decide)
  refine TRun.cons (o' := 5) (tl_fn treeT octsM (by kernel_rfl) (by kernel_rfl) (by kernel_rfl) rfl (by decide)) ?_ rfl (by decide)
  refine TRun.cons (o' := 6) (tl_fn treeT octsM (by kernel_rfl) (by kernel_rfl) (by kernel_rfl) rfl (by decide)) ?_ rfl (by decide)
  exact TRun.tags treeT eachM cbGroupMember sortedM (by kernel_rfl) (by kernel_rfl) (by decide)
def gsGroup : List (V → T) := [tNum, tText, tStr, tStr, tStr, tStr, fun x => .mk 0 [] x.isNil (x.items.map tgGroupMember) [], tNum]
def tgGroup (x : V) : T := .mk 0 [] false (tellAll gsGroup (x.items.drop 0)) (uOf gsGroup (x.items.drop 0))
theorem cbGroup : CbM Tryd.prog 137 := cb_m (et := 5) (TL := 24) (bs := 32) Tryd.func137 (by kernel_rfl) rfl rfl rfl (by kernel_rfl) treeT (by kernel_rfl) (by kernel_rfl) (by decide) tagF tagT (by kernel_rfl) octT
theorem tlGroup : TellM Tryd.prog 92 (.st (tGroup)) tgGroup := by
  refine tell_root (pre := []) (tys := tGroup) (st := 3) (m := 4) treeT Tryd.func92 (by kernel_rfl) rfl rfl rfl ?_ rfl rfl (by decide) (by decide)
  refine TRun.cons (o' := 1) (tl_num treeT (by kernel_rfl) (by kernel_rfl) (by kernel_rfl) (by kernel_rfl) (by kernel_rfl) (by decide) (by decide)) ?_ rfl (by decide)
  refine TRun.cons (o' := 2) (tl_fn treeT textM (by kernel_rfl) (by kernel_rfl) (by kernel_rfl) rfl (by decide)) ?_ rfl (by decide)
  refine TRun.cons (o' := 3) (tl_str treeT (by kernel_rfl) (by kernel_rfl) (by kernel_rfl) (by kernel_rfl) (by kernel_rfl) (by decide)) ?_ rfl (by decide)
  refine TRun.cons (o' := 4) (tl_str treeT (by kernel_rfl) (by kernel_rfl) (by kernel_rfl) (by kernel_rfl) (by kernel_rfl) (by decide)) ?_ rfl (by decide)
  refine TRun.cons (o' := 5) (tl_str treeT (by kernel_rfl) (by kernel_rfl) (by kernel_rfl) (by kernel_rfl) (by kernel_rfl) (by decide)) ?_ rfl (by decide)
  refine TRun.cons (o' := 6) (tl_str treeT (by kernel_rfl) (by kernel_rfl) (by kernel_rfl) (by kernel_rfl) (by kernel_rfl) (by decide)) ?_ rfl (by decide)
  refine TRun.cons2 (o' := 7) (tl_null treeT (by kernel_rfl) (by kernel_rfl) (by kernel_rfl) (by kernel_rfl) (by kernel_rfl) (by decide)) (tl_loop (m2 := 79) treeT (app_call1 treeT tlGroupMember rfl (by kernel_rfl) (by kernel_rfl) (by kernel_rfl) (by kernel_rfl) (by decide)) (app_call2 treeT tlGroupMember (by kernel_rfl) (by kernel_rfl) (by kernel_rfl) (by kernel_rfl) (by decide)) boolT (by kernel_rfl) (by kernel_rfl) (by kernel_rfl) (by kernel_rfl) (by kernel_rfl) (by decide)) ?_ rfl (by decide)
  refine TRun.cons (o' := 8) (tl_num treeT (by kernel_rfl) (by kernel_rfl) (by kernel_rfl) (by kernel_rfl) (by kernel_rfl) (by decide) (by decide)) ?_ rfl (by decide)
  exact TRun.tags treeT eachM cbGroup sortedM (by kernel_rfl) (by kernel_rfl) (by decide)
def gsR : List (V → T) := [tNum, fun x => .mk 0 [] x.isNil (x.items.map tgGroup) []]
def tgR (x : V) : T := .mk 0 [] false (tellAll gsR (x.items.drop 1)) (uOf gsR (x.items.drop 1))
theorem cbR : CbM Tryd.prog 93 := cb_m (et := 5) (TL := 24) (bs := 32) Tryd.func93 (by kernel_rfl) rfl rfl rfl (by kernel_rfl) treeT (by kernel_rfl) (by kernel_rfl) (by decide) tagF tagT (by kernel_rfl) octT
theorem tlR : TellM Tryd.prog 65 (.st (.int .i16 :: tR)) tgR := by
  refine tell_root (pre := [.int .i16]) (tys := tR) (st := 3) (m := 4) treeT Tryd.func65 (by kernel_rfl) rfl rfl rfl ?_ rfl rfl (by decide) (by decide)
  refine TRun.cons (o' := 2) (tl_num treeT (by kernel_rfl) (by kernel_rfl) (by kernel_rfl) (by kernel_rfl) (by kernel_rfl) (by decide) (by decide)) ?_ rfl (by decide)
  refine TRun.cons2 (o' := 3) (tl_null treeT (by kernel_rfl) (by kernel_rfl) (by kernel_rfl) (by kernel_rfl) (by kernel_rfl) (by decide)) (tl_loop (m2 := 35) treeT (app_call1 treeT tlGroup rfl (by kernel_rfl) (by kernel_rfl) (by kernel_rfl) (by kernel_rfl) (by decide)) (app_call2 treeT tlGroup (by kernel_rfl) (by kernel_rfl) (by kernel_rfl) (by kernel_rfl) (by decide)) boolT (by kernel_rfl) (by kernel_rfl) (by kernel_rfl) (by kernel_rfl) (by kernel_rfl) (by decide)) ?_ rfl (by decide)
  exact TRun.tags treeT eachM cbR sortedM (by kernel_rfl) (by kernel_rfl) (by decide)
theorem setM : SetM Tryd.prog 63 := set_m Tryd.func63 (by kernel_rfl) rfl rfl rfl (by kernel_rfl) (by kernel_rfl)
theorem newM : NewM Tryd.prog 61 (.int .i16 :: tR) [.n 0, .n 0, .nil, .nil] := new_m (d := id) Tryd.func61 (by kernel_rfl) rfl rfl rfl (zeroB_is (by kernel_rfl)) dR (by decide)
theorem maxM : MaxM Tryd.prog 27 6 := maxd_m (tys := .int .i16 :: tR) (ds := [.n 0, .n 0, .nil, .nil]) (mx := ((6 : Nat) : Int)) (fmx := 62) (fnw := 61) (f := 27) (P := Tryd.prog) Tryd.func27 (by kernel_rfl) rfl rfl rfl newM (maxv_m Tryd.func62 (by kernel_rfl) rfl rfl rfl) (by decide) (by kernel_rfl) (by kernel_rfl)
theorem rd1 : ReadD Tryd.prog 0 64 tR [.n 0, .nil, .nil] fl gR := read_d rf Tryd.func64 (by kernel_rfl) rfl rfl rfl
theorem rd2 : ReadD Tryd.prog 0 66 tR [.n 0, .nil, .nil] fl gR := read_d rf Tryd.func66 (by kernel_rfl) rfl rfl rfl
theorem door1 : DoorM Tryd.prog 0 28 (doorRes gR fl tgR) := door_m (te := 5) Tryd.func28 (by kernel_rfl) rfl rfl rfl treeT.flat (by kernel_rfl) (zeroB_is (by kernel_rfl)) (by kernel_rfl) (by kernel_rfl) (by kernel_rfl) newM setM rd1 tlR
theorem door2 : DoorM Tryd.prog 0 29 (doorRes gR fl tgR) := door_m (te := 5) Tryd.func29 (by kernel_rfl) rfl rfl rfl treeT.flat (by kernel_rfl) (zeroB_is (by kernel_rfl)) (by kernel_rfl) (by kernel_rfl) (by kernel_rfl) newM setM rd2 tlR
theorem law : LawU Tryd.prog 0 8 := lawu_m (mx := 6) (te := 5) Tryd.func8 (by kernel_rfl) rfl rfl rfl (by kernel_rfl) treeT.flat (by kernel_rfl) (by kernel_rfl) (by kernel_rfl) maxM (by decide) verM door1 door2 (enters_of Tryd.func14 (by kernel_rfl) rfl) gotM (enters_of Tryd.func13 (by kernel_rfl) rfl) sameTree
end Go.Proofs.YtekhigcoccepjaaDoor.DescribeGroupsResponse
