/- The parts of the law on FindCoordinatorResponse: what the codes that it reaches give. Printed by gen_msg.py. -/
import Derived.Test.YtekhigcoccepjaaDoorKqCom
set_option linter.unusedVariables false
set_option linter.unusedSimpArgs false
namespace Go.Proofs.YtekhigcoccepjaaDoor.FindCoordinatorResponse
open Go.Kq
def tCoordinator : List Ty := [.str, .int .i32, .str, .int .i32, .int .i16, .pstr, .tags]
def gCoordinator : Rd := (rdCons (rdOne fun _ fl st => if fl then gCStr st else gStr st) (rdCons (rdOne fun _ _ => gNum .i32 4) (rdCons (rdOne fun _ fl st => if fl then gCStr st else gStr st) (rdCons (rdOne fun _ _ => gNum .i32 4) (rdCons (rdOne fun _ _ => gNum .i16 2) (rdCons (rdOne fun _ fl st => if fl then gCNStr st else gNStr st) (rdCons rdTagsF rdSt0)))))))
theorem dCoordinator : DefM Tryd.prog 121 (tCoordinator) id := def_skip Tryd.func121 (by kernel_rfl) (by kernel_rfl) (by kernel_rfl)
def tR : List Ty := [.int .i32, .int .i16, .pstr, .int .i32, .str, .int .i32, .arr (.st tCoordinator), .tags]
def gR : Rd := (rdCons (rdIf (fun v => decide (v ≥ 1)) (.n 0) (rdOne fun _ _ => gNum .i32 4)) (rdCons (rdIf (fun v => decide (v ≥ 0) && decide (v ≤ 3)) (.n 0) (rdOne fun _ _ => gNum .i16 2)) (rdCons (rdIf (fun v => decide (v ≥ 1) && decide (v ≤ 3)) (.nil) (rdOne fun _ fl st => if fl then gCNStr st else gNStr st)) (rdCons (rdIf (fun v => decide (v ≥ 0) && decide (v ≤ 3)) (.n 0) (rdOne fun _ _ => gNum .i32 4)) (rdCons (rdIf (fun v => decide (v ≥ 0) && decide (v ≤ 3)) (.s []) (rdOne fun _ fl st => if fl then gCStr st else gStr st)) (rdCons (rdIf (fun v => decide (v ≥ 0) && decide (v ≤ 3)) (.n 0) (rdOne fun _ _ => gNum .i32 4)) (rdCons (rdIf (fun v => decide (v ≥ 4)) (.nil) (rdArr (fun _ fl st => if fl then gCALen st else gALen st) gCoordinator)) (rdCons rdTagsF rdSt0))))))))
theorem dR : DefM Tryd.prog 77 (.int .i16 :: tR) id := def_skip Tryd.func77 (by kernel_rfl) (by kernel_rfl) (by kernel_rfl)
def fl : Int → Bool := fun v => decide (v ≥ 3)
set_option maxRecDepth 20000 in
theorem rf : ReadM Tryd.prog 0 78 tR [.n 0, .n 0, .nil, .n 0, .s [], .n 0, .nil, .nil] fl gR := by
  refine root Tryd.func78 (by kernel_rfl) rfl rfl rfl ?_ dR (fun _ => rfl) readerT (by kernel_rfl) (by kernel_rfl) (isL_cons (isL_cons (isL_cons (isL_cons (isL_cons (isL_cons (isL_cons (isL_cons isL_nil)))))))) (by decide)
  refine bdy_fl ?_ (by decide)
  refine Run.cons (m := 11) (o' := 2) ?_ ?_ rfl (by decide) (by decide) (isL_cons (isL_cons (isL_cons (isL_cons (isL_cons (isL_cons (isL_cons isL_nil)))))))
  · skip
    exact (fld_if (fld_asg (asg_call mInt32 (by decide)) (by kernel_rfl) (by kernel_rfl) rfl (by decide)) (fun i => rfl) (by decide))
  refine Run.cons (m := 12) (o' := 3) ?_ ?_ rfl (by decide) (by decide) (isL_cons (isL_cons (isL_cons (isL_cons (isL_cons (isL_cons isL_nil))))))
  · skip
    exact (fld_if2 (fld_asg (asg_call mInt16 (by decide)) (by kernel_rfl) (by kernel_rfl) rfl (by decide)) (by decide))
  refine Run.cons (m := 13) (o' := 4) ?_ ?_ rfl (by decide) (by decide) (isL_cons (isL_cons (isL_cons (isL_cons (isL_cons isL_nil)))))
  · skip
    exact (fld_if2 (fld_var (fld_asg (asg_flex (u := 9) (asg_uns (asg_call mUnsafeCompactNullableString (by decide)) (asg_call mCompactNullableString (by decide)) (by decide)) (asg_uns (asg_call mUnsafeNullableString (by decide)) (asg_call mNullableString (by decide)) (by decide)) rfl (by decide)) (by kernel_rfl) (by kernel_rfl) rfl (by decide)) (by decide)) (by decide))
  refine Run.cons (m := 14) (o' := 5) ?_ ?_ rfl (by decide) (by decide) (isL_cons (isL_cons (isL_cons (isL_cons isL_nil))))
  · skip
    exact (fld_if2 (fld_asg (asg_call mInt32 (by decide)) (by kernel_rfl) (by kernel_rfl) rfl (by decide)) (by decide))
  refine Run.cons (m := 15) (o' := 6) ?_ ?_ rfl (by decide) (by decide) (isL_cons (isL_cons (isL_cons isL_nil)))
  · skip
    exact (fld_if2 (fld_var (fld_asg (asg_uns (asg_flex (u := 9) (asg_call mUnsafeCompactString (by decide)) (asg_call mUnsafeString (by decide)) rfl (by decide)) (asg_flex (u := 9) (asg_call mCompactString (by decide)) (asg_call mString (by decide)) rfl (by decide)) (by decide)) (by kernel_rfl) (by kernel_rfl) rfl (by decide)) (by decide)) (by decide))
  refine Run.cons (m := 16) (o' := 7) ?_ ?_ rfl (by decide) (by decide) (isL_cons (isL_cons isL_nil))
  · skip
    exact (fld_if2 (fld_asg (asg_call mInt32 (by decide)) (by kernel_rfl) (by kernel_rfl) rfl (by decide)) (by decide))
  refine Run.cons (m := 17) (o' := 8) ?_ ?_ rfl (by decide) (by decide) (isL_cons isL_nil)
  · skip
    refine fld_if ?_ (fun i => rfl) (by decide)
    refine fld_arr (m' := 21) (e0 := 99) (bs := 64) okM completeM (asg_flex (u := 9) (asg_call mCompactArrayLen (by decide)) (asg_call mArrayLen (by decide)) rfl (by decide)) ?_ (by kernel_rfl) (by decide) (by kernel_rfl) (by kernel_rfl) (by kernel_rfl) (zeroB_is (z := [.string ⟨#[]⟩, .int .i32 0, .string ⟨#[]⟩, .int .i32 0, .int .i16 0, .pointer none, .map none]) (by kernel_rfl)) rfl rfl (by decide)
    refine elt_st (m' := 23) (et := 99) (z0 := [.s [], .n 0, .s [], .n 0, .n 0, .nil, .nil]) (bs := 64) ?_ dCoordinator ?_ (by kernel_rfl) (by decide)
    · skip
      refine Fld.cons (m := 23) (m' := 24) (o' := 1) ?_ ?_ rfl (by decide) (by decide) (by decide)
      · skip
        exact (fld_var (fld_asg (asg_uns (asg_flex (u := 9) (asg_call mUnsafeCompactString (by decide)) (asg_call mUnsafeString (by decide)) rfl (by decide)) (asg_flex (u := 9) (asg_call mCompactString (by decide)) (asg_call mString (by decide)) rfl (by decide)) (by decide)) (by kernel_rfl) (by kernel_rfl) rfl (by decide)) (by decide))
      refine Fld.cons (m := 24) (m' := 25) (o' := 2) ?_ ?_ rfl (by decide) (by decide) (by decide)
      · skip
        exact (fld_asg (asg_call mInt32 (by decide)) (by kernel_rfl) (by kernel_rfl) rfl (by decide))
      refine Fld.cons (m := 25) (m' := 26) (o' := 3) ?_ ?_ rfl (by decide) (by decide) (by decide)
      · skip
        exact (fld_var (fld_asg (asg_uns (asg_flex (u := 9) (asg_call mUnsafeCompactString (by decide)) (asg_call mUnsafeString (by decide)) rfl (by decide)) (asg_flex (u := 9) (asg_call mCompactString (by decide)) (asg_call mString (by decide)) rfl (by decide)) (by decide)) (by kernel_rfl) (by kernel_rfl) rfl (by decide)) (by decide))
      refine Fld.cons (m := 26) (m' := 27) (o' := 4) ?_ ?_ rfl (by decide) (by decide) (by decide)
      · skip
        exact (fld_asg (asg_call mInt32 (by decide)) (by kernel_rfl) (by kernel_rfl) rfl (by decide))
      refine Fld.cons (m := 27) (m' := 28) (o' := 5) ?_ ?_ rfl (by decide) (by decide) (by decide)
      · skip
        exact (fld_asg (asg_call mInt16 (by decide)) (by kernel_rfl) (by kernel_rfl) rfl (by decide))
      refine Fld.cons (m := 28) (m' := 195) (o' := 6) ?_ ?_ rfl (by decide) (by decide) (by decide)
      · skip
        exact (fld_var (fld_asg (asg_flex (u := 9) (asg_uns (asg_call mUnsafeCompactNullableString (by decide)) (asg_call mCompactNullableString (by decide)) (by decide)) (asg_uns (asg_call mUnsafeNullableString (by decide)) (asg_call mNullableString (by decide)) (by decide)) rfl (by decide)) (by kernel_rfl) (by kernel_rfl) rfl (by decide)) (by decide))
      refine Fld.one ?_
      exact (fld_tags (tf := 9) mTags (flatB_is (by kernel_rfl)) (by kernel_rfl) rfl (by decide))
    · exact fun w => reps_zero tCoordinator
  refine Run.cons (m := 205) (o' := 9) ?_ ?_ rfl (by decide) (by decide) isL_nil
  · skip
    exact (fld_tags (tf := 9) mTags (flatB_is (by kernel_rfl)) (by kernel_rfl) rfl (by decide))
  exact run_end completeM (by decide)
def gsCoordinator : List (V → T) := [tStr, tNum, tStr, tNum, tNum, tText]
def tgCoordinator (x : V) : T := .mk 0 [] false (tellAll gsCoordinator (x.items.drop 0)) (uOf gsCoordinator (x.items.drop 0))
theorem cbCoordinator : CbM Tryd.prog 122 := cb_m (et := 5) (TL := 24) (bs := 32) Tryd.func122 (by kernel_rfl) rfl rfl rfl (by kernel_rfl) treeT (by kernel_rfl) (by kernel_rfl) (by decide) tagF tagT (by kernel_rfl) octT
theorem tlCoordinator : TellM Tryd.prog 80 (.st (tCoordinator)) tgCoordinator := by
  refine tell_root (pre := []) (tys := tCoordinator) (st := 3) (m := 4) treeT Tryd.func80 (by kernel_rfl) rfl rfl rfl ?_ rfl rfl (by decide) (by decide)
  refine TRun.cons (o' := 1) (tl_str treeT (by kernel_rfl) (by kernel_rfl) (by kernel_rfl) (by kernel_rfl) (by kernel_rfl) (by decide)) ?_ rfl (by decide)
  refine TRun.cons (o' := 2) (tl_num treeT (by kernel_rfl) (by kernel_rfl) (by kernel_rfl) (by kernel_rfl) (by kernel_rfl) (by decide) (by decide)) ?_ rfl (by decide)
  refine TRun.cons (o' := 3) (tl_str treeT (by kernel_rfl) (by kernel_rfl) (by kernel_rfl) (by kernel_rfl) (by kernel_rfl) (by decide)) ?_ rfl (by decide)
  refine TRun.cons (o' := 4) (tl_num treeT (by kernel_rfl) (by kernel_rfl) (by kernel_rfl) (by kernel_rfl) (by kernel_rfl) (by decide) (by decide)) ?_ rfl (by decide)
  refine TRun.cons (o' := 5) (tl_num treeT (by kernel_rfl) (by kernel_rfl) (by kernel_rfl) (by kernel_rfl) (by kernel_rfl) (by decide) (by decide)) ?_ rfl (by decide)
  refine TRun.cons (o' := 6) (tl_fn treeT textM (by kernel_rfl) (by kernel_rfl) (by kernel_rfl) rfl (by decide)) ?_ rfl (by decide)
  exact TRun.tags treeT eachM cbCoordinator sortedM (by kernel_rfl) (by kernel_rfl) (by decide)
def gsR : List (V → T) := [tNum, tNum, tText, tNum, tStr, tNum, fun x => .mk 0 [] x.isNil (x.items.map tgCoordinator) []]
def tgR (x : V) : T := .mk 0 [] false (tellAll gsR (x.items.drop 1)) (uOf gsR (x.items.drop 1))
theorem cbR : CbM Tryd.prog 81 := cb_m (et := 5) (TL := 24) (bs := 32) Tryd.func81 (by kernel_rfl) rfl rfl rfl (by kernel_rfl) treeT (by kernel_rfl) (by kernel_rfl) (by decide) tagF tagT (by kernel_rfl) octT
theorem tlR : TellM Tryd.prog 47 (.st (.int .i16 :: tR)) tgR := by
  refine tell_root (pre := [.int .i16]) (tys := tR) (st := 3) (m := 4) treeT Tryd.func47 (by kernel_rfl) rfl rfl rfl ?_ rfl rfl (by decide) (by decide)
  refine TRun.cons (o' := 2) (tl_num treeT (by kernel_rfl) (by kernel_rfl) (by kernel_rfl) (by kernel_rfl) (by kernel_rfl) (by decide) (by decide)) ?_ rfl (by decide)
  refine TRun.cons (o' := 3) (tl_num treeT (by kernel_rfl) (by kernel_rfl) (by kernel_rfl) (by kernel_rfl) (by kernel_rfl) (by decide) (by decide)) ?_ rfl (by decide)
  refine TRun.cons (o' := 4) (tl_fn treeT textM (by kernel_rfl) (by kernel_rfl) (by kernel_rfl) rfl (by decide)) ?_ rfl (by decide)
  refine TRun.cons (o' := 5) (tl_num treeT (by kernel_rfl) (by kernel_rfl) (by kernel_rfl) (by kernel_rfl) (by kernel_rfl) (by decide) (by decide)) ?_ rfl (by decide)
  refine TRun.cons (o' := 6) (tl_str treeT (by kernel_rfl) (by kernel_rfl) (by kernel_rfl) (by kernel_rfl) (by kernel_rfl) (by decide)) ?_ rfl (by decide)
  refine TRun.cons (o' := 7) (tl_num treeT (by kernel_rfl) (by kernel_rfl) (by kernel_rfl) (by kernel_rfl) (by kernel_rfl) (by decide) (by decide)) ?_ rfl (by decide)
  refine TRun.cons2 (o' := 8) (tl_null treeT (by kernel_rfl) (by kernel_rfl) (by kernel_rfl) (by kernel_rfl) (by kernel_rfl) (by decide)) (tl_loop (m2 := 79) treeT (app_call1 treeT tlCoordinator rfl (by kernel_rfl) (by kernel_rfl) (by kernel_rfl) (by kernel_rfl) (by decide)) (app_call2 treeT tlCoordinator (by kernel_rfl) (by kernel_rfl) (by kernel_rfl) (by kernel_rfl) (by decide)) boolT (by kernel_rfl) (by kernel_rfl) (by kernel_rfl) (by kernel_rfl) (by kernel_rfl) (by decide)) ?_ rfl (by decide)
  exact TRun.tags treeT eachM cbR sortedM (by kernel_rfl) (by kernel_rfl) (by decide)
theorem setM : SetM Tryd.prog 45 := set_m Tryd.func45 (by kernel_rfl) rfl rfl rfl (by kernel_rfl) (by kernel_rfl)
theorem newM : NewM Tryd.prog 43 (.int .i16 :: tR) [.n 0, .n 0, .n 0, .nil, .n 0, .s [], .n 0, .nil, .nil] := new_m (d := id) Tryd.func43 (by kernel_rfl) rfl rfl rfl (zeroB_is (by kernel_rfl)) dR (by decide)
theorem maxM : MaxM Tryd.prog 18 6 := maxd_m (tys := .int .i16 :: tR) (ds := [.n 0, .n 0, .n 0, .nil, .n 0, .s [], .n 0, .nil, .nil]) (mx := ((6 : Nat) : Int)) (fmx := 44) (fnw := 43) (f := 18) (P := Tryd.prog) Tryd.func18 (by kernel_rfl) rfl rfl rfl newM (maxv_m Tryd.func44 (by kernel_rfl) rfl rfl rfl) (by decide) (by kernel_rfl) (by kernel_rfl)
theorem rd1 : ReadD Tryd.prog 0 46 tR [.n 0, .n 0, .nil, .n 0, .s [], .n 0, .nil, .nil] fl gR := read_d rf Tryd.func46 (by kernel_rfl) rfl rfl rfl
theorem rd2 : ReadD Tryd.prog 0 48 tR [.n 0, .n 0, .nil, .n 0, .s [], .n 0, .nil, .nil] fl gR := read_d rf Tryd.func48 (by kernel_rfl) rfl rfl rfl
theorem door1 : DoorM Tryd.prog 0 19 (doorRes gR fl tgR) := door_m (te := 5) Tryd.func19 (by kernel_rfl) rfl rfl rfl treeT.flat (by kernel_rfl) (zeroB_is (by kernel_rfl)) (by kernel_rfl) (by kernel_rfl) (by kernel_rfl) newM setM rd1 tlR
theorem door2 : DoorM Tryd.prog 0 20 (doorRes gR fl tgR) := door_m (te := 5) Tryd.func20 (by kernel_rfl) rfl rfl rfl treeT.flat (by kernel_rfl) (zeroB_is (by kernel_rfl)) (by kernel_rfl) (by kernel_rfl) (by kernel_rfl) newM setM rd2 tlR
theorem law : LawU Tryd.prog 0 5 := lawu_m (mx := 6) (te := 5) Tryd.func5 (by kernel_rfl) rfl rfl rfl (by kernel_rfl) treeT.flat (by kernel_rfl) (by kernel_rfl) (by kernel_rfl) maxM (by decide) verM door1 door2 (enters_of Tryd.func14 (by kernel_rfl) rfl) gotM (enters_of Tryd.func13 (by kernel_rfl) rfl) sameTree
end Go.Proofs.YtekhigcoccepjaaDoor.FindCoordinatorResponse
