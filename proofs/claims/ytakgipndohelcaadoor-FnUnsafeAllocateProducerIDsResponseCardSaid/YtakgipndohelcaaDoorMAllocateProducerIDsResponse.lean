/- The parts of the law on AllocateProducerIDsResponse: what the codes that it reaches give. Printed by gen_msg.py. -/
import Derived.Test.YtakgipndohelcaaDoorKqCom
set_option linter.unusedVariables false
set_option linter.unusedSimpArgs false
namespace Go.Proofs.YtakgipndohelcaaDoor.AllocateProducerIDsResponse
open Go.Kq
def tR : List Ty := [.int .i32, .int .i16, .int .i64, .int .i32, .tags]
def gR : Rd := (rdCons (rdOne fun _ _ => gNum .i32 4) (rdCons (rdOne fun _ _ => gNum .i16 2) (rdCons (rdOne fun _ _ => gNum .i64 8) (rdCons (rdOne fun _ _ => gNum .i32 4) (rdCons rdTagsF rdSt0)))))
theorem dR : DefM Tryd.prog 47 (.int .i16 :: tR) id := def_skip Tryd.func47 (by kernel_rfl) (by kernel_rfl) (by kernel_rfl)
def fl : Int → Bool := fun v => decide (v ≥ 0)
set_option maxRecDepth 20000 in
theorem rf : ReadM Tryd.prog 1 48 tR [.n 0, .n 0, .n 0, .n 0, .nil] fl gR := by
  refine root Tryd.func48 (by kernel_rfl) rfl rfl rfl ?_ dR (fun _ => rfl) readerT (by kernel_rfl) (by kernel_rfl) (isL_cons (isL_cons (isL_cons (isL_cons (isL_cons isL_nil))))) (by decide)
  refine bdy_fl ?_ (by decide)
  refine Run.cons (m := 11) (o' := 2) ?_ ?_ rfl (by decide) (by decide) (isL_cons (isL_cons (isL_cons (isL_cons isL_nil))))
  · skip
    exact (fld_asg (asg_call mInt32 (by decide)) (by kernel_rfl) (by kernel_rfl) rfl (by decide))
  refine Run.cons (m := 12) (o' := 3) ?_ ?_ rfl (by decide) (by decide) (isL_cons (isL_cons (isL_cons isL_nil)))
  · skip
    exact (fld_asg (asg_call mInt16 (by decide)) (by kernel_rfl) (by kernel_rfl) rfl (by decide))
  refine Run.cons (m := 13) (o' := 4) ?_ ?_ rfl (by decide) (by decide) (isL_cons (isL_cons isL_nil))
  · skip
    exact (fld_asg (asg_call mInt64 (by decide)) (by kernel_rfl) (by kernel_rfl) rfl (by decide))
  refine Run.cons (m := 14) (o' := 5) ?_ ?_ rfl (by decide) (by decide) (isL_cons isL_nil)
  · skip
    exact (fld_asg (asg_call mInt32 (by decide)) (by kernel_rfl) (by kernel_rfl) rfl (by decide))
  refine Run.cons (m := 48) (o' := 6) ?_ ?_ rfl (by decide) (by decide) isL_nil
  · skip
    exact (fld_tags (tf := 9) mTags (flatB_is (by kernel_rfl)) (by kernel_rfl) rfl (by decide))
  exact run_end completeM (by decide)
def gsR : List (V → T) := [tNum, tNum, tNum, tNum]
def tgR (x : V) : T := .mk 0 [] false (tellAll gsR (x.items.drop 1)) (uOf gsR (x.items.drop 1))
theorem cbR : CbM Tryd.prog 50 := cb_m (et := 5) (TL := 24) (bs := 32) Tryd.func50 (by kernel_rfl) rfl rfl rfl (by kernel_rfl) treeT (by kernel_rfl) (by kernel_rfl) (by decide) tagF tagT (by kernel_rfl) octT
theorem tlR : TellM Tryd.prog 26 (.st (.int .i16 :: tR)) tgR := by
  refine tell_root (pre := [.int .i16]) (tys := tR) (st := 3) (m := 4) treeT Tryd.func26 (by kernel_rfl) rfl rfl rfl ?_ rfl rfl (by decide) (by decide)
  refine TRun.cons (o' := 2) (tl_num treeT (by kernel_rfl) (by kernel_rfl) (by kernel_rfl) (by kernel_rfl) (by kernel_rfl) (by decide) (by decide)) ?_ rfl (by decide)
  refine TRun.cons (o' := 3) (tl_num treeT (by kernel_rfl) (by kernel_rfl) (by kernel_rfl) (by kernel_rfl) (by kernel_rfl) (by decide) (by decide)) ?_ rfl (by decide)
  refine TRun.cons (o' := 4) (tl_n64 treeT (by kernel_rfl) (by kernel_rfl) (by kernel_rfl) (by decide)) ?_ rfl (by decide)
  refine TRun.cons (o' := 5) (tl_num treeT (by kernel_rfl) (by kernel_rfl) (by kernel_rfl) (by kernel_rfl) (by kernel_rfl) (by decide) (by decide)) ?_ rfl (by decide)
  exact TRun.tags treeT eachM cbR sortedM (by kernel_rfl) (by kernel_rfl) (by decide)
theorem setM : SetM Tryd.prog 24 := set_m Tryd.func24 (by kernel_rfl) rfl rfl rfl (by kernel_rfl) (by kernel_rfl)
theorem newM : NewM Tryd.prog 22 (.int .i16 :: tR) [.n 0, .n 0, .n 0, .n 0, .n 0, .nil] := new_m (d := id) Tryd.func22 (by kernel_rfl) rfl rfl rfl (zeroB_is (by kernel_rfl)) dR (by decide)
theorem maxM : MaxM Tryd.prog 7 0 := maxd_m (tys := .int .i16 :: tR) (ds := [.n 0, .n 0, .n 0, .n 0, .n 0, .nil]) (mx := ((0 : Nat) : Int)) (fmx := 23) (fnw := 22) (f := 7) (P := Tryd.prog) Tryd.func7 (by kernel_rfl) rfl rfl rfl newM (maxv_m Tryd.func23 (by kernel_rfl) rfl rfl rfl) (by decide) (by kernel_rfl) (by kernel_rfl)
theorem rd1 : ReadD Tryd.prog 1 25 tR [.n 0, .n 0, .n 0, .n 0, .nil] fl gR := read_d rf Tryd.func25 (by kernel_rfl) rfl rfl rfl
theorem rd2 : ReadD Tryd.prog 1 27 tR [.n 0, .n 0, .n 0, .n 0, .nil] fl gR := read_d rf Tryd.func27 (by kernel_rfl) rfl rfl rfl
theorem door1 : DoorM Tryd.prog 1 8 (doorRes gR fl tgR) := door_m (te := 5) Tryd.func8 (by kernel_rfl) rfl rfl rfl treeT.flat (by kernel_rfl) (zeroB_is (by kernel_rfl)) (by kernel_rfl) (by kernel_rfl) (by kernel_rfl) newM setM rd1 tlR
theorem door2 : DoorM Tryd.prog 1 10 (doorRes gR fl tgR) := door_m (te := 5) Tryd.func10 (by kernel_rfl) rfl rfl rfl treeT.flat (by kernel_rfl) (zeroB_is (by kernel_rfl)) (by kernel_rfl) (by kernel_rfl) (by kernel_rfl) newM setM rd2 tlR
theorem law : LawU Tryd.prog 1 3 := lawu_m (mx := 0) (te := 5) Tryd.func3 (by kernel_rfl) rfl rfl rfl (by kernel_rfl) treeT.flat (by kernel_rfl) (by kernel_rfl) (by kernel_rfl) maxM (by decide) verM door1 door2 (enters_of Tryd.func12 (by kernel_rfl) rfl) gotM (enters_of Tryd.func11 (by kernel_rfl) rfl) sameTree
end Go.Proofs.YtakgipndohelcaaDoor.AllocateProducerIDsResponse
