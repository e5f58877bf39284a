/- The parts of the law on StreamsGroupTopologyDescriptionUpdateResponse: what the codes that it reaches give. Printed by gen_msg.py. -/
import Derived.Test.YtdfkkacpliangaaDoorKqCom
namespace Go.Proofs.YtdfkkacpliangaaDoor.StreamsGroupTopologyDescriptionUpdateResponse
open Go.Kq
def tR : List Ty := [.int .i32, .int .i16, .pstr, .tags]
def gR : Rd := (rdCons (rdOne fun _ _ => gNum .i32 4) (rdCons (rdOne fun _ _ => gNum .i16 2) (rdCons (rdOne fun _ fl st => if fl then gCNStr st else gNStr st) (rdCons rdTagsF rdSt0))))
theorem dR : DefM Tryd.prog 37 (.int .i16 :: tR) id := def_skip Tryd.func37 (by kernel_rfl) (by kernel_rfl) (by kernel_rfl)
def fl : Int → Bool := fun v => decide (v ≥ 0)
set_option maxRecDepth 20000 in
theorem rf : ReadM Tryd.prog 1 38 tR [.n 0, .n 0, .nil, .nil] fl gR := by
  refine root Tryd.func38 (by kernel_rfl) rfl rfl rfl ?_ dR (fun _ => rfl) readerT (by kernel_rfl) (by kernel_rfl) (isL_cons (isL_cons (isL_cons (isL_cons isL_nil)))) (by decide)
  refine bdy_fl ?_ (by decide)
  refine Run.cons (m := 11) (o' := 2) ?_ ?_ rfl (by decide) (by decide) (isL_cons (isL_cons (isL_cons isL_nil)))
  · skip
    exact (fld_asg (asg_call mInt32 (by decide)) (by kernel_rfl) (by kernel_rfl) rfl (by decide))
  refine Run.cons (m := 12) (o' := 3) ?_ ?_ rfl (by decide) (by decide) (isL_cons (isL_cons isL_nil))
  · skip
    exact (fld_asg (asg_call mInt16 (by decide)) (by kernel_rfl) (by kernel_rfl) rfl (by decide))
  refine Run.cons (m := 13) (o' := 4) ?_ ?_ rfl (by decide) (by decide) (isL_cons isL_nil)
  · skip
    exact (fld_var (fld_asg (asg_flex (u := 9) (asg_uns (asg_call mUnsafeCompactNullableString (by decide)) (asg_call mCompactNullableString (by decide)) (by decide)) (asg_uns (asg_call mUnsafeNullableString (by decide)) (asg_call mNullableString (by decide)) (by decide)) rfl (by decide)) (by kernel_rfl) (by kernel_rfl) rfl (by decide)) (by decide))
  refine Run.cons (m := 48) (o' := 5) ?_ ?_ rfl (by decide) (by decide) isL_nil
  · skip
    exact (fld_tags (tf := 9) mTags (flatB_is (by kernel_rfl)) (by kernel_rfl) rfl (by decide))
  exact run_end completeM (by decide)
def gsR : List (V → T) := [tNum, tNum, tText]
def tgR (x : V) : T := .mk 0 [] false (tellAll gsR (x.items.drop 1)) (uOf gsR (x.items.drop 1))
theorem cbR : CbM Tryd.prog 41 := cb_m (et := 5) (TL := 24) (bs := 32) Tryd.func41 (by kernel_rfl) rfl rfl rfl (by kernel_rfl) treeT (by kernel_rfl) (by kernel_rfl) (by decide) tagF tagT (by kernel_rfl) octT
theorem tlR : TellM Tryd.prog 22 (.st (.int .i16 :: tR)) tgR := by
  refine tell_root (pre := [.int .i16]) (tys := tR) (st := 3) (m := 4) treeT Tryd.func22 (by kernel_rfl) rfl rfl rfl ?_ rfl rfl (by decide) (by decide)
  refine TRun.cons (o' := 2) (tl_num treeT (by kernel_rfl) (by kernel_rfl) (by kernel_rfl) (by kernel_rfl) (by kernel_rfl) (by decide) (by decide)) ?_ rfl (by decide)
  refine TRun.cons (o' := 3) (tl_num treeT (by kernel_rfl) (by kernel_rfl) (by kernel_rfl) (by kernel_rfl) (by kernel_rfl) (by decide) (by decide)) ?_ rfl (by decide)
  refine TRun.cons (o' := 4) (tl_fn treeT textM (by kernel_rfl) (by kernel_rfl) (by kernel_rfl) rfl (by decide)) ?_ rfl (by decide)
  exact TRun.tags treeT eachM cbR sortedM (by kernel_rfl) (by kernel_rfl) (by decide)
theorem setM : SetM Tryd.prog 20 := set_m Tryd.func20 (by kernel_rfl) rfl rfl rfl (by kernel_rfl) (by kernel_rfl)
theorem newM : NewM Tryd.prog 18 (.int .i16 :: tR) [.n 0, .n 0, .n 0, .nil, .nil] := new_m (d := id) Tryd.func18 (by kernel_rfl) rfl rfl rfl (zeroB_is (by kernel_rfl)) dR (by decide)
theorem maxM : MaxM Tryd.prog 6 0 := maxd_m (tys := .int .i16 :: tR) (ds := [.n 0, .n 0, .n 0, .nil, .nil]) (mx := ((0 : Nat) : Int)) (fmx := 19) (fnw := 18) (f := 6) (P := Tryd.prog) Tryd.func6 (by kernel_rfl) rfl rfl rfl newM (maxv_m Tryd.func19 (by kernel_rfl) rfl rfl rfl) (by decide) (by kernel_rfl) (by kernel_rfl)
theorem rd1 : ReadD Tryd.prog 1 21 tR [.n 0, .n 0, .nil, .nil] fl gR := read_d rf Tryd.func21 (by kernel_rfl) rfl rfl rfl
theorem rd2 : ReadD Tryd.prog 1 23 tR [.n 0, .n 0, .nil, .nil] fl gR := read_d rf Tryd.func23 (by kernel_rfl) rfl rfl rfl
theorem door1 : DoorM Tryd.prog 1 7 (doorRes gR fl tgR) := door_m (te := 5) Tryd.func7 (by kernel_rfl) rfl rfl rfl treeT.flat (by kernel_rfl) (zeroB_is (by kernel_rfl)) (by kernel_rfl) (by kernel_rfl) (by kernel_rfl) newM setM rd1 tlR
theorem door2 : DoorM Tryd.prog 1 9 (doorRes gR fl tgR) := door_m (te := 5) Tryd.func9 (by kernel_rfl) rfl rfl rfl treeT.flat (by kernel_rfl) (zeroB_is (by kernel_rfl)) (by kernel_rfl) (by kernel_rfl) (by kernel_rfl) newM setM rd2 tlR
theorem law : LawU Tryd.prog 1 3 := lawu_m (mx := 0) (te := 5) Tryd.func3 (by kernel_rfl) rfl rfl rfl (by kernel_rfl) treeT.flat (by kernel_rfl) (by kernel_rfl) (by kernel_rfl) maxM (by decide) verM door1 door2 (enters_of Tryd.func11 (by kernel_rfl) rfl) gotM (enters_of Tryd.func10 (by kernel_rfl) rfl) sameTree
end Go.Proofs.YtdfkkacpliangaaDoor.StreamsGroupTopologyDescriptionUpdateResponse
