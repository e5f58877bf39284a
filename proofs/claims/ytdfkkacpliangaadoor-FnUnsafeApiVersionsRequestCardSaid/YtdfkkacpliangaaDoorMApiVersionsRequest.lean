/- The parts of the law on ApiVersionsRequest: what the codes that it reaches give. Printed by gen_msg.py. -/
import Derived.Test.YtdfkkacpliangaaDoorKqCom
namespace Go.Proofs.YtdfkkacpliangaaDoor.ApiVersionsRequest
open Go.Kq
def tR : List Ty := [.str, .str, .pstr, .int .i32, .tags]
def gR : Rd := (rdCons (rdIf (fun v => decide (v ≥ 3)) (.s []) (rdOne fun _ fl st => if fl then gCStr st else gStr st)) (rdCons (rdIf (fun v => decide (v ≥ 3)) (.s []) (rdOne fun _ fl st => if fl then gCStr st else gStr st)) (rdCons (rdIf (fun v => decide (v ≥ 5)) (.nil) (rdOne fun _ fl st => if fl then gCNStr st else gNStr st)) (rdCons (rdIf (fun v => decide (v ≥ 5)) (.n (-1)) (rdOne fun _ _ => gNum .i32 4)) (rdCons rdTagsF rdSt0)))))
theorem dR : DefM Tryd.prog 43 (.int .i16 :: tR) (fun xs => (xs.set 4 (.n (-1)))) := def_sets (N := 5) Tryd.func43 (by kernel_rfl) rfl rfl (by decide) rfl (DRun.one (i := 4) (ty := .int .i32) (x := .n (-1)) (by kernel_rfl) (by kernel_rfl) rfl rfl rfl rfl (fun w => ⟨_, rfl, rfl, by decide, by decide⟩) (by decide))
def fl : Int → Bool := fun v => decide (v ≥ 3)
set_option maxRecDepth 20000 in
theorem rf : ReadM Tryd.prog 1 44 tR [.s [], .s [], .nil, .n (-1), .nil] fl gR := by
  refine root Tryd.func44 (by kernel_rfl) rfl rfl rfl ?_ dR (fun _ => rfl) readerT (by kernel_rfl) (by kernel_rfl) (isL_cons (isL_cons (isL_cons (isL_cons (isL_cons isL_nil))))) (by decide)
  refine bdy_fl ?_ (by decide)
  refine Run.cons (m := 11) (o' := 2) ?_ ?_ rfl (by decide) (by decide) (isL_cons (isL_cons (isL_cons (isL_cons isL_nil))))
  · skip
    exact (fld_if (fld_var (fld_asg (asg_uns (asg_flex (u := 9) (asg_call mUnsafeCompactString (by decide)) (asg_call mUnsafeString (by decide)) rfl (by decide)) (asg_flex (u := 9) (asg_call mCompactString (by decide)) (asg_call mString (by decide)) rfl (by decide)) (by decide)) (by kernel_rfl) (by kernel_rfl) rfl (by decide)) (by decide)) (fun i => rfl) (by decide))
  refine Run.cons (m := 12) (o' := 3) ?_ ?_ rfl (by decide) (by decide) (isL_cons (isL_cons (isL_cons isL_nil)))
  · skip
    exact (fld_if (fld_var (fld_asg (asg_uns (asg_flex (u := 9) (asg_call mUnsafeCompactString (by decide)) (asg_call mUnsafeString (by decide)) rfl (by decide)) (asg_flex (u := 9) (asg_call mCompactString (by decide)) (asg_call mString (by decide)) rfl (by decide)) (by decide)) (by kernel_rfl) (by kernel_rfl) rfl (by decide)) (by decide)) (fun i => rfl) (by decide))
  refine Run.cons (m := 13) (o' := 4) ?_ ?_ rfl (by decide) (by decide) (isL_cons (isL_cons isL_nil))
  · skip
    exact (fld_if (fld_var (fld_asg (asg_flex (u := 9) (asg_uns (asg_call mUnsafeCompactNullableString (by decide)) (asg_call mCompactNullableString (by decide)) (by decide)) (asg_uns (asg_call mUnsafeNullableString (by decide)) (asg_call mNullableString (by decide)) (by decide)) rfl (by decide)) (by kernel_rfl) (by kernel_rfl) rfl (by decide)) (by decide)) (fun i => rfl) (by decide))
  refine Run.cons (m := 14) (o' := 5) ?_ ?_ rfl (by decide) (by decide) (isL_cons isL_nil)
  · skip
    exact (fld_if (fld_asg (asg_call mInt32 (by decide)) (by kernel_rfl) (by kernel_rfl) rfl (by decide)) (fun i => rfl) (by decide))
  refine Run.cons (m := 74) (o' := 6) ?_ ?_ rfl (by decide) (by decide) isL_nil
  · skip
    exact (fld_tags (tf := 9) mTags (flatB_is (by kernel_rfl)) (by kernel_rfl) rfl (by decide))
  exact run_end completeM (by decide)
def gsR : List (V → T) := [tStr, tStr, tText, tNum]
def tgR (x : V) : T := .mk 0 [] false (tellAll gsR (x.items.drop 1)) (uOf gsR (x.items.drop 1))
theorem cbR : CbM Tryd.prog 45 := cb_m (et := 5) (TL := 24) (bs := 32) Tryd.func45 (by kernel_rfl) rfl rfl rfl (by kernel_rfl) treeT (by kernel_rfl) (by kernel_rfl) (by decide) tagF tagT (by kernel_rfl) octT
theorem tlR : TellM Tryd.prog 29 (.st (.int .i16 :: tR)) tgR := by
  refine tell_root (pre := [.int .i16]) (tys := tR) (st := 3) (m := 4) treeT Tryd.func29 (by kernel_rfl) rfl rfl rfl ?_ rfl rfl (by decide) (by decide)
  refine TRun.cons (o' := 2) (tl_str treeT (by kernel_rfl) (by kernel_rfl) (by kernel_rfl) (by kernel_rfl) (by kernel_rfl) (by decide)) ?_ rfl (by decide)
  refine TRun.cons (o' := 3) (tl_str treeT (by kernel_rfl) (by kernel_rfl) (by kernel_rfl) (by kernel_rfl) (by kernel_rfl) (by decide)) ?_ rfl (by decide)
  refine TRun.cons (o' := 4) (tl_fn treeT textM (by kernel_rfl) (by kernel_rfl) (by kernel_rfl) rfl (by decide)) ?_ rfl (by decide)
  refine TRun.cons (o' := 5) (tl_num treeT (by kernel_rfl) (by kernel_rfl) (by kernel_rfl) (by kernel_rfl) (by kernel_rfl) (by decide) (by decide)) ?_ rfl (by decide)
  exact TRun.tags treeT eachM cbR sortedM (by kernel_rfl) (by kernel_rfl) (by decide)
theorem setM : SetM Tryd.prog 27 := set_m Tryd.func27 (by kernel_rfl) rfl rfl rfl (by kernel_rfl) (by kernel_rfl)
theorem newM : NewM Tryd.prog 25 (.int .i16 :: tR) [.n 0, .s [], .s [], .nil, .n (-1), .nil] := new_m (d := (fun xs => (xs.set 4 (.n (-1))))) Tryd.func25 (by kernel_rfl) rfl rfl rfl (zeroB_is (by kernel_rfl)) dR (by decide)
theorem maxM : MaxM Tryd.prog 12 5 := maxd_m (tys := .int .i16 :: tR) (ds := [.n 0, .s [], .s [], .nil, .n (-1), .nil]) (mx := ((5 : Nat) : Int)) (fmx := 26) (fnw := 25) (f := 12) (P := Tryd.prog) Tryd.func12 (by kernel_rfl) rfl rfl rfl newM (maxv_m Tryd.func26 (by kernel_rfl) rfl rfl rfl) (by decide) (by kernel_rfl) (by kernel_rfl)
theorem rd1 : ReadD Tryd.prog 1 28 tR [.s [], .s [], .nil, .n (-1), .nil] fl gR := read_d rf Tryd.func28 (by kernel_rfl) rfl rfl rfl
theorem rd2 : ReadD Tryd.prog 1 30 tR [.s [], .s [], .nil, .n (-1), .nil] fl gR := read_d rf Tryd.func30 (by kernel_rfl) rfl rfl rfl
theorem door1 : DoorM Tryd.prog 1 13 (doorRes gR fl tgR) := door_m (te := 5) Tryd.func13 (by kernel_rfl) rfl rfl rfl treeT.flat (by kernel_rfl) (zeroB_is (by kernel_rfl)) (by kernel_rfl) (by kernel_rfl) (by kernel_rfl) newM setM rd1 tlR
theorem door2 : DoorM Tryd.prog 1 14 (doorRes gR fl tgR) := door_m (te := 5) Tryd.func14 (by kernel_rfl) rfl rfl rfl treeT.flat (by kernel_rfl) (zeroB_is (by kernel_rfl)) (by kernel_rfl) (by kernel_rfl) (by kernel_rfl) newM setM rd2 tlR
theorem law : LawU Tryd.prog 1 4 := lawu_m (mx := 5) (te := 5) Tryd.func4 (by kernel_rfl) rfl rfl rfl (by kernel_rfl) treeT.flat (by kernel_rfl) (by kernel_rfl) (by kernel_rfl) maxM (by decide) verM door1 door2 (enters_of Tryd.func11 (by kernel_rfl) rfl) gotM (enters_of Tryd.func10 (by kernel_rfl) rfl) sameTree
end Go.Proofs.YtdfkkacpliangaaDoor.ApiVersionsRequest
