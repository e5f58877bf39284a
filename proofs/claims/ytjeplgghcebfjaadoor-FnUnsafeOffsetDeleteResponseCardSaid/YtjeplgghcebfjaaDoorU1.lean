/- The parts of the law on OffsetDeleteResponse: the codes that it reaches and what they give. -/
import Derived.Test.YtjeplgghcebfjaaDoorKqInst
import Derived.Test.YtjeplgghcebfjaaDoorKqLawU
namespace Go.Proofs.YtjeplgghcebfjaaDoor
open Go.Kq
def tPart : List Ty := [.int .i32, .int .i16]
def tTopic : List Ty := [.str, .arr (.st tPart)]
def tRoot : List Ty := [.int .i16, .int .i32, .arr (.st tTopic)]
def gPart : Rd := rdCons (rdOne fun _ _ => gNum .i32 4) (rdCons (rdOne fun _ _ => gNum .i16 2) rdSt0)
def gTopic : Rd := rdCons (rdOne fun _ _ => gStr) (rdCons (rdArr (fun _ _ => gALen) gPart) rdSt0)
def gRoot : Rd := rdCons (rdOne fun _ _ => gNum .i16 2) (rdCons (rdOne fun _ _ => gNum .i32 4) (rdCons (rdArr (fun _ _ => gALen) gTopic) rdSt0))
theorem dPart : DefM Tryd.prog 73 tPart id := def_skip Tryd.func73 (by kernel_rfl) (by kernel_rfl) (by kernel_rfl)
theorem dTopic : DefM Tryd.prog 70 tTopic id := def_skip Tryd.func70 (by kernel_rfl) (by kernel_rfl) (by kernel_rfl)
theorem dRoot : DefM Tryd.prog 42 (.int .i16 :: tRoot) id := def_skip Tryd.func42 (by kernel_rfl) (by kernel_rfl) (by kernel_rfl)
set_option maxRecDepth 10000 in
theorem rf : ReadM Tryd.prog 1 43 tRoot [.n 0, .n 0, .nil] (fun _ => false) gRoot := by
  refine root Tryd.func43 (by kernel_rfl) rfl rfl rfl ?_ dRoot (fun _ => rfl) readerT (by kernel_rfl) (by kernel_rfl) (isL_cons (isL_cons (isL_cons isL_nil))) (by decide)
  refine bdy_nf ?_ (by decide)
  refine Run.cons (m := 10) (o' := 2) (fld_asg (asg_call mInt16 (by decide)) (by kernel_rfl) (by kernel_rfl) rfl (by decide)) ?_ rfl (by decide) (by decide) (isL_cons (isL_cons isL_nil))
  refine Run.cons (m := 11) (o' := 3) (fld_asg (asg_call mInt32 (by decide)) (by kernel_rfl) (by kernel_rfl) rfl (by decide)) ?_ rfl (by decide) (by decide) (isL_cons isL_nil)
  refine Run.cons (m := 12) (o' := 4) ?_ (run_end completeM (by decide)) rfl (by decide) (by decide) isL_nil
  refine fld_arr (m' := 16) (e0 := 87) (bs := 40) okM completeM (asg_call mArrayLen (by decide)) ?_ (by kernel_rfl) (by decide) (by kernel_rfl) (by kernel_rfl) (by kernel_rfl) (zeroB_is (z := [.string ⟨#[]⟩, .slice none 0 0]) (by kernel_rfl)) rfl rfl (by decide)
  · refine elt_st (m' := 18) (et := 87) (z0 := [.s [], .nil]) (bs := 40) ?_ dTopic ?_ (by kernel_rfl) (by decide)
    · refine Fld.cons (m := 18) (m' := 19) (o' := 1) (fld_var (fld_asg (asg_uns (asg_call mUnsafeString (by decide)) (asg_call mString (by decide)) (by decide)) (by kernel_rfl) (by kernel_rfl) rfl (by decide)) (by decide)) ?_ rfl (by decide) (by decide) (by decide)
      refine Fld.one ?_
      refine fld_arr (m' := 23) (e0 := 121) (bs := 8) okM completeM (asg_call mArrayLen (by decide)) ?_ (by kernel_rfl) (by decide) (by kernel_rfl) (by kernel_rfl) (by kernel_rfl) (zeroB_is (z := [.int .i32 0, .int .i16 0]) (by kernel_rfl)) rfl rfl (by decide)
      refine elt_st (m' := 25) (et := 121) (z0 := [.n 0, .n 0]) (bs := 8) ?_ dPart ?_ (by kernel_rfl) (by decide)
      · refine Fld.cons (m := 25) (m' := 26) (o' := 1) (fld_asg (asg_call mInt32 (by decide)) (by kernel_rfl) (by kernel_rfl) rfl (by decide)) ?_ rfl (by decide) (by decide) (by decide)
        exact Fld.one (fld_asg (asg_call mInt16 (by decide)) (by kernel_rfl) (by kernel_rfl) rfl (by decide))
      · exact fun w => reps_zero tPart
    · exact fun w => reps_zero tTopic
theorem treeT : TreeTys Tryd.prog 27 24 := ⟨flatB_is (by kernel_rfl), by kernel_rfl, by kernel_rfl, by kernel_rfl, zeroB_is (by kernel_rfl)⟩
theorem boolT : zeroOf Tryd.prog 4 (.bool false) := zeroVB_is (by kernel_rfl)
def gsPart : List (V → T) := [tNum, tNum]
def tgPart (x : V) : T := .mk 0 [] false (tellAll gsPart (x.items.drop 0)) []
theorem tlPart : TellM Tryd.prog 74 (.st tPart) tgPart := by
  refine tell_root (pre := []) (tys := tPart) (st := 3) (m := 4) treeT Tryd.func74 (by kernel_rfl) rfl rfl rfl ?_ rfl rfl (by decide) (by decide)
  refine TRun.cons (o' := 1) (tl_num treeT (by kernel_rfl) (by kernel_rfl) (by kernel_rfl) (by kernel_rfl) (by kernel_rfl) (by decide) (by decide)) ?_ rfl (by decide)
  refine TRun.cons (o' := 2) (tl_num treeT (by kernel_rfl) (by kernel_rfl) (by kernel_rfl) (by kernel_rfl) (by kernel_rfl) (by decide) (by decide)) ?_ rfl (by decide)
  exact TRun.nil treeT (by decide)
def gsTopic : List (V → T) := [tStr, fun x => .mk 0 [] x.isNil (x.items.map tgPart) []]
def tgTopic (x : V) : T := .mk 0 [] false (tellAll gsTopic (x.items.drop 0)) []
theorem tlTopic : TellM Tryd.prog 44 (.st tTopic) tgTopic := by
  refine tell_root (pre := []) (tys := tTopic) (st := 3) (m := 4) treeT Tryd.func44 (by kernel_rfl) rfl rfl rfl ?_ rfl rfl (by decide) (by decide)
  refine TRun.cons (o' := 1) (tl_str treeT (by kernel_rfl) (by kernel_rfl) (by kernel_rfl) (by kernel_rfl) (by kernel_rfl) (by decide)) ?_ rfl (by decide)
  refine TRun.cons2 (o' := 2) (tl_null treeT (by kernel_rfl) (by kernel_rfl) (by kernel_rfl) (by kernel_rfl) (by kernel_rfl) (by decide)) ?_ (TRun.nil treeT (by decide)) rfl (by decide)
  exact tl_loop (m2 := 35) treeT (app_call1 treeT tlPart rfl (by kernel_rfl) (by kernel_rfl) (by kernel_rfl) (by kernel_rfl) (by decide)) (app_call2 treeT tlPart (by kernel_rfl) (by kernel_rfl) (by kernel_rfl) (by kernel_rfl) (by decide)) boolT (by kernel_rfl) (by kernel_rfl) (by kernel_rfl) (by kernel_rfl) (by kernel_rfl) (by decide)
def gsRoot : List (V → T) := [tNum, tNum, fun x => .mk 0 [] x.isNil (x.items.map tgTopic) []]
def tgRoot (x : V) : T := .mk 0 [] false (tellAll gsRoot (x.items.drop 1)) []
theorem tlRoot : TellM Tryd.prog 26 (.st (.int .i16 :: tRoot)) tgRoot := by
  refine tell_root (pre := [.int .i16]) (tys := tRoot) (st := 3) (m := 4) treeT Tryd.func26 (by kernel_rfl) rfl rfl rfl ?_ rfl rfl (by decide) (by decide)
  refine TRun.cons (o' := 2) (tl_num treeT (by kernel_rfl) (by kernel_rfl) (by kernel_rfl) (by kernel_rfl) (by kernel_rfl) (by decide) (by decide)) ?_ rfl (by decide)
  refine TRun.cons (o' := 3) (tl_num treeT (by kernel_rfl) (by kernel_rfl) (by kernel_rfl) (by kernel_rfl) (by kernel_rfl) (by decide) (by decide)) ?_ rfl (by decide)
  refine TRun.cons2 (o' := 4) (tl_null treeT (by kernel_rfl) (by kernel_rfl) (by kernel_rfl) (by kernel_rfl) (by kernel_rfl) (by decide)) ?_ (TRun.nil treeT (by decide)) rfl (by decide)
  exact tl_loop (m2 := 44) treeT (app_call1 treeT tlTopic rfl (by kernel_rfl) (by kernel_rfl) (by kernel_rfl) (by kernel_rfl) (by decide)) (app_call2 treeT tlTopic (by kernel_rfl) (by kernel_rfl) (by kernel_rfl) (by kernel_rfl) (by decide)) boolT (by kernel_rfl) (by kernel_rfl) (by kernel_rfl) (by kernel_rfl) (by kernel_rfl) (by decide)
theorem sameM : SameM Tryd.prog 21 := same_m (et := 5) (bs := 1) (by kernel_rfl) Tryd.func21 (by kernel_rfl) rfl rfl rfl (by kernel_rfl) (by kernel_rfl) (by kernel_rfl)
theorem sameTree : ∀ t, SameCall Tryd.prog 10 t :=
  sametree_m (z := zT) (z2 := zG) (et1 := 35) (et2 := 61) (bs1 := 88) (bs2 := 32) Tryd.func10 (by kernel_rfl) rfl rfl rfl (flatB_is (by kernel_rfl)) rfl (flatB_is (by kernel_rfl)) rfl (by kernel_rfl) (by kernel_rfl) (by kernel_rfl) (by kernel_rfl) (by kernel_rfl) (by kernel_rfl) (by kernel_rfl) (by kernel_rfl) (by kernel_rfl) (by kernel_rfl) sameM (by kernel_rfl) (by kernel_rfl)
theorem gotM : ∀ t, GotCall Tryd.prog 11 t :=
  got_m (bs := 88) (bs2 := 88) (bs3 := 32) (bs4 := 32) Tryd.func11 (by kernel_rfl) rfl rfl rfl (flatB_is (by kernel_rfl)) (flatB_is (by kernel_rfl)) (zeroB_is (by kernel_rfl)) (flatB_is (by kernel_rfl)) (flatB_is (by kernel_rfl)) (zeroB_is (by kernel_rfl)) (by kernel_rfl) (by kernel_rfl) (by kernel_rfl) (by kernel_rfl) (by kernel_rfl) (by kernel_rfl) (by kernel_rfl) (by kernel_rfl) (by kernel_rfl) (by kernel_rfl) (by kernel_rfl) (by kernel_rfl) (by decide) (by decide) (by kernel_rfl) (by kernel_rfl)
theorem setM : SetM Tryd.prog 24 := set_m Tryd.func24 (by kernel_rfl) rfl rfl rfl (by kernel_rfl) (by kernel_rfl)
theorem newM : NewM Tryd.prog 22 (.int .i16 :: tRoot) [.n 0, .n 0, .n 0, .nil] := new_m (d := id) Tryd.func22 (by kernel_rfl) rfl rfl rfl (zeroB_is (by kernel_rfl)) dRoot (by decide)
theorem maxM : MaxM Tryd.prog 6 0 := maxd_m (tys := .int .i16 :: tRoot) (ds := [.n 0, .n 0, .n 0, .nil]) (mx := ((0 : Nat) : Int)) (fmx := 23) (fnw := 22) (f := 6) (P := Tryd.prog) Tryd.func6 (by kernel_rfl) rfl rfl rfl newM (maxv_m Tryd.func23 (by kernel_rfl) rfl rfl rfl) (by decide) (by kernel_rfl) (by kernel_rfl)
theorem verM : VerM Tryd.prog 8 := version_m (P := Tryd.prog) (f := 8) Tryd.func8 (by kernel_rfl) rfl rfl rfl (by kernel_rfl) (by kernel_rfl)
theorem rd1 : ReadD Tryd.prog 1 25 tRoot [.n 0, .n 0, .nil] (fun _ => false) gRoot := read_d rf Tryd.func25 (by kernel_rfl) rfl rfl rfl
theorem rd2 : ReadD Tryd.prog 1 27 tRoot [.n 0, .n 0, .nil] (fun _ => false) gRoot := read_d rf Tryd.func27 (by kernel_rfl) rfl rfl rfl
theorem door7 : DoorM Tryd.prog 1 7 (doorRes gRoot (fun _ => false) tgRoot) := door_m (te := 5) Tryd.func7 (by kernel_rfl) rfl rfl rfl treeT.flat (by kernel_rfl) (zeroB_is (by kernel_rfl)) (by kernel_rfl) (by kernel_rfl) (by kernel_rfl) newM setM rd1 tlRoot
theorem door9 : DoorM Tryd.prog 1 9 (doorRes gRoot (fun _ => false) tgRoot) := door_m (te := 5) Tryd.func9 (by kernel_rfl) rfl rfl rfl treeT.flat (by kernel_rfl) (zeroB_is (by kernel_rfl)) (by kernel_rfl) (by kernel_rfl) (by kernel_rfl) newM setM rd2 tlRoot
theorem law : LawU Tryd.prog 1 3 := lawu_m (mx := 0) (te := 5) Tryd.func3 (by kernel_rfl) rfl rfl rfl (by kernel_rfl) treeT.flat (by kernel_rfl) (by kernel_rfl) (by kernel_rfl) maxM (by decide) verM door7 door9 (enters_of Tryd.func11 (by kernel_rfl) rfl) gotM (enters_of Tryd.func10 (by kernel_rfl) rfl) sameTree
end Go.Proofs.YtjeplgghcebfjaaDoor
