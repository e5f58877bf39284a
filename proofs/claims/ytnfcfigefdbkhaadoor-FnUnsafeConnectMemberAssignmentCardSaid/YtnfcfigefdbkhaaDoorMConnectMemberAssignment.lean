/- The parts of the law on ConnectMemberAssignment. Printed by gen_msg.py. -/
import Derived.Test.YtnfcfigefdbkhaaDoorCConnectMemberAssignment
import Derived.Test.YtnfcfigefdbkhaaDoorKqCoU
import Derived.Test.YtnfcfigefdbkhaaDoorKqP04
set_option linter.unusedVariables false
set_option linter.unusedSimpArgs false
namespace Go.Proofs.YtnfcfigefdbkhaaDoor.ConnectMemberAssignment
open Go.Kq
def tAssignment:List Ty:=[.str,.arr (.int .i16)]
def gAssignment:Rd:=(rdCons (rdOne fun _ _=>gStr) (rdCons (rdArr (fun _ _=>gALen) (rdOne fun _ _=>gNum .i16 2)) rdSt0))
theorem dAssignment:DefM Tryd.prog 68 (tAssignment) id:=def_skip Tryd.func68 (by kernel_rfl) (by kernel_rfl) (by kernel_rfl)
def tRevoked:List Ty:=[.str,.arr (.int .i16)]
def gRevoked:Rd:=(rdCons (rdOne fun _ _=>gStr) (rdCons (rdArr (fun _ _=>gALen) (rdOne fun _ _=>gNum .i16 2)) rdSt0))
theorem dRevoked:DefM Tryd.prog 69 (tRevoked) id:=def_skip Tryd.func69 (by kernel_rfl) (by kernel_rfl) (by kernel_rfl)
def tR:List Ty:=[.int .i16,.str,.str,.int .i64,.arr (.st tAssignment),.arr (.st tRevoked),.int .i32]
def gR:Rd:=(rdCons (rdOne fun _ _=>gNum .i16 2) (rdCons (rdOne fun _ _=>gStr) (rdCons (rdOne fun _ _=>gStr) (rdCons (rdOne fun _ _=>gNum .i64 8) (rdCons (rdArr (fun _ _=>gALen) gAssignment) (rdCons (rdIf (fun v=>decide (v≥1)) (.nil) (rdArr (fun _ _=>gALen) gRevoked)) (rdCons (rdIf (fun v=>decide (v≥1)) (.n 0) (rdOne fun _ _=>gNum .i32 4)) rdSt0)))))))
theorem dR:DefM Tryd.prog 49 (.int .i16::tR) id:=def_skip Tryd.func49 (by kernel_rfl) (by kernel_rfl) (by kernel_rfl)
def fl:Int→Bool:=fun _=>false
set_option maxRecDepth 20000 in
theorem rf:ReadK Tryd.prog 1 50 tR [.n 0,.s [],.s [],.n 0,.nil,.nil,.n 0] fl gR:=by
  refine root_k Tryd.func50 (by kernel_rfl) rfl rfl rfl ?_ dR (fun _=>rfl) readerT (by kernel_rfl) (by kernel_rfl) mInt16 (by kernel_rfl) (isL_cons (isL_cons (isL_cons (isL_cons (isL_cons (isL_cons (isL_cons isL_nil))))))) (by decide)
  refine bdy_nf ?_ (by decide)
  refine Run.cons (m:=10) (o':=2) ?_ ?_ rfl (by decide) (by decide) (isL_cons (isL_cons (isL_cons (isL_cons (isL_cons (isL_cons isL_nil))))))
  · skip
    exact (fld_asg (asg_call mInt16 (by decide)) (by kernel_rfl) (by kernel_rfl) rfl (by decide))
  refine Run.cons (m:=11) (o':=3) ?_ ?_ rfl (by decide) (by decide) (isL_cons (isL_cons (isL_cons (isL_cons (isL_cons isL_nil)))))
  · skip
    exact (fld_var (fld_asg (asg_uns (asg_call mUnsafeString (by decide)) (asg_call mString (by decide)) (by decide)) (by kernel_rfl) (by kernel_rfl) rfl (by decide)) (by decide))
  refine Run.cons (m:=12) (o':=4) ?_ ?_ rfl (by decide) (by decide) (isL_cons (isL_cons (isL_cons (isL_cons isL_nil))))
  · skip
    exact (fld_var (fld_asg (asg_uns (asg_call mUnsafeString (by decide)) (asg_call mString (by decide)) (by decide)) (by kernel_rfl) (by kernel_rfl) rfl (by decide)) (by decide))
  refine Run.cons (m:=13) (o':=5) ?_ ?_ rfl (by decide) (by decide) (isL_cons (isL_cons (isL_cons isL_nil)))
  · skip
    exact (fld_asg (asg_call mInt64 (by decide)) (by kernel_rfl) (by kernel_rfl) rfl (by decide))
  refine Run.cons (m:=14) (o':=6) ?_ ?_ rfl (by decide) (by decide) (isL_cons (isL_cons isL_nil))
  · skip
    refine fld_arr (m':=18) (e0:=96) (bs:=40) okM completeM (asg_call mArrayLen (by decide)) ?_ (by kernel_rfl) (by decide) (by kernel_rfl) (by kernel_rfl) (by kernel_rfl) (zeroB_is (z:=[.string ⟨#[]⟩,.slice none 0 0]) (by kernel_rfl)) rfl rfl (by decide)
    refine elt_st (m':=20) (et:=96) (z0:=[.s [],.nil]) (bs:=40) ?_ dAssignment ?_ (by kernel_rfl) (by decide)
    · skip
      refine Fld.cons (m:=20) (m':=21) (o':=1) ?_ ?_ rfl (by decide) (by decide) (by decide)
      · skip
        exact (fld_var (fld_asg (asg_uns (asg_call mUnsafeString (by decide)) (asg_call mString (by decide)) (by decide)) (by kernel_rfl) (by kernel_rfl) rfl (by decide)) (by decide))
      refine Fld.one ?_
      refine fld_arr (m':=25) (e0:=48) (bs:=2) okM completeM (asg_call mArrayLen (by decide)) ?_ (by kernel_rfl) (by decide) (by kernel_rfl) (by kernel_rfl) (by kernel_rfl) (zeroB_is (z:=[.int .i16 0]) (by kernel_rfl)) rfl rfl (by decide)
      exact elt_one (m':=25) (et:=48) (bs:=2) (asg_call mInt16 (by decide)) (by kernel_rfl) (by kernel_rfl) rfl (by decide)
    · exact fun w=>reps_zero tAssignment
  refine Run.cons (m:=26) (o':=7) ?_ ?_ rfl (by decide) (by decide) (isL_cons isL_nil)
  · skip
    refine fld_if ?_ (fun i=>rfl) (by decide)
    refine fld_arr (m':=30) (e0:=99) (bs:=40) okM completeM (asg_call mArrayLen (by decide)) ?_ (by kernel_rfl) (by decide) (by kernel_rfl) (by kernel_rfl) (by kernel_rfl) (zeroB_is (z:=[.string ⟨#[]⟩,.slice none 0 0]) (by kernel_rfl)) rfl rfl (by decide)
    refine elt_st (m':=32) (et:=99) (z0:=[.s [],.nil]) (bs:=40) ?_ dRevoked ?_ (by kernel_rfl) (by decide)
    · skip
      refine Fld.cons (m:=32) (m':=33) (o':=1) ?_ ?_ rfl (by decide) (by decide) (by decide)
      · skip
        exact (fld_var (fld_asg (asg_uns (asg_call mUnsafeString (by decide)) (asg_call mString (by decide)) (by decide)) (by kernel_rfl) (by kernel_rfl) rfl (by decide)) (by decide))
      refine Fld.one ?_
      refine fld_arr (m':=37) (e0:=48) (bs:=2) okM completeM (asg_call mArrayLen (by decide)) ?_ (by kernel_rfl) (by decide) (by kernel_rfl) (by kernel_rfl) (by kernel_rfl) (zeroB_is (z:=[.int .i16 0]) (by kernel_rfl)) rfl rfl (by decide)
      exact elt_one (m':=37) (et:=48) (bs:=2) (asg_call mInt16 (by decide)) (by kernel_rfl) (by kernel_rfl) rfl (by decide)
    · exact fun w=>reps_zero tRevoked
  refine Run.cons (m:=38) (o':=8) ?_ ?_ rfl (by decide) (by decide) isL_nil
  · skip
    exact (fld_if (fld_asg (asg_call mInt32 (by decide)) (by kernel_rfl) (by kernel_rfl) rfl (by decide)) (fun i=>rfl) (by decide))
  exact run_end completeM (by decide)
def gsAssignment:List (V→T):=[tStr,fun x=>.mk 0 [] x.isNil (x.items.map tNum) []]
def tgAssignment (x:V):T:=.mk 0 [] false (tellAll gsAssignment (x.items.drop 0)) (uOf gsAssignment (x.items.drop 0))
theorem tlAssignment:TellM Tryd.prog 51 (.st (tAssignment)) tgAssignment:=by
  refine tell_root (pre:=[]) (tys:=tAssignment) (st:=3) (m:=4) treeT Tryd.func51 (by kernel_rfl) rfl rfl rfl ?_ rfl rfl (by decide) (by decide)
  refine TRun.cons (o':=1) (tl_str treeT (by kernel_rfl) (by kernel_rfl) (by kernel_rfl) (by kernel_rfl) (by kernel_rfl) (by decide)) ?_ rfl (by decide)
  refine TRun.cons2 (o':=2) (tl_null treeT (by kernel_rfl) (by kernel_rfl) (by kernel_rfl) (by kernel_rfl) (by kernel_rfl) (by decide)) (tl_loop (m2:=35) treeT (app_num1 treeT (by kernel_rfl) (by kernel_rfl) (by kernel_rfl) (by kernel_rfl) rfl (by kernel_rfl) (by kernel_rfl) (by kernel_rfl) (by kernel_rfl) (by decide)) (app_num2 treeT (by kernel_rfl) (by kernel_rfl) (by kernel_rfl) (by kernel_rfl) (by kernel_rfl) (by kernel_rfl) (by kernel_rfl) (by kernel_rfl) (by decide)) boolT (by kernel_rfl) (by kernel_rfl) (by kernel_rfl) (by kernel_rfl) (by kernel_rfl) (by decide)) ?_ rfl (by decide)
  exact TRun.nil treeT (by decide)
def gsRevoked:List (V→T):=[tStr,fun x=>.mk 0 [] x.isNil (x.items.map tNum) []]
def tgRevoked (x:V):T:=.mk 0 [] false (tellAll gsRevoked (x.items.drop 0)) (uOf gsRevoked (x.items.drop 0))
theorem tlRevoked:TellM Tryd.prog 52 (.st (tRevoked)) tgRevoked:=by
  refine tell_root (pre:=[]) (tys:=tRevoked) (st:=3) (m:=4) treeT Tryd.func52 (by kernel_rfl) rfl rfl rfl ?_ rfl rfl (by decide) (by decide)
  refine TRun.cons (o':=1) (tl_str treeT (by kernel_rfl) (by kernel_rfl) (by kernel_rfl) (by kernel_rfl) (by kernel_rfl) (by decide)) ?_ rfl (by decide)
  refine TRun.cons2 (o':=2) (tl_null treeT (by kernel_rfl) (by kernel_rfl) (by kernel_rfl) (by kernel_rfl) (by kernel_rfl) (by decide)) (tl_loop (m2:=35) treeT (app_num1 treeT (by kernel_rfl) (by kernel_rfl) (by kernel_rfl) (by kernel_rfl) rfl (by kernel_rfl) (by kernel_rfl) (by kernel_rfl) (by kernel_rfl) (by decide)) (app_num2 treeT (by kernel_rfl) (by kernel_rfl) (by kernel_rfl) (by kernel_rfl) (by kernel_rfl) (by kernel_rfl) (by kernel_rfl) (by kernel_rfl) (by decide)) boolT (by kernel_rfl) (by kernel_rfl) (by kernel_rfl) (by kernel_rfl) (by kernel_rfl) (by decide)) ?_ rfl (by decide)
  exact TRun.nil treeT (by decide)
def gsR:List (V→T):=[tNum,tStr,tStr,tNum,fun x=>.mk 0 [] x.isNil (x.items.map tgAssignment) [],fun x=>.mk 0 [] x.isNil (x.items.map tgRevoked) [],tNum]
def tgR (x:V):T:=.mk 0 [] false (tellAll gsR (x.items.drop 1)) (uOf gsR (x.items.drop 1))
theorem tlR:TellM Tryd.prog 32 (.st (.int .i16::tR)) tgR:=by
  refine tell_root (pre:=[.int .i16]) (tys:=tR) (st:=3) (m:=4) treeT Tryd.func32 (by kernel_rfl) rfl rfl rfl ?_ rfl rfl (by decide) (by decide)
  refine TRun.cons (o':=2) (tl_num treeT (by kernel_rfl) (by kernel_rfl) (by kernel_rfl) (by kernel_rfl) (by kernel_rfl) (by decide) (by decide)) ?_ rfl (by decide)
  refine TRun.cons (o':=3) (tl_str treeT (by kernel_rfl) (by kernel_rfl) (by kernel_rfl) (by kernel_rfl) (by kernel_rfl) (by decide)) ?_ rfl (by decide)
  refine TRun.cons (o':=4) (tl_str treeT (by kernel_rfl) (by kernel_rfl) (by kernel_rfl) (by kernel_rfl) (by kernel_rfl) (by decide)) ?_ rfl (by decide)
  refine TRun.cons (o':=5) (tl_n64 treeT (by kernel_rfl) (by kernel_rfl) (by kernel_rfl) (by decide)) ?_ rfl (by decide)
  refine TRun.cons2 (o':=6) (tl_null treeT (by kernel_rfl) (by kernel_rfl) (by kernel_rfl) (by kernel_rfl) (by kernel_rfl) (by decide)) (tl_loop (m2:=62) treeT (app_call1 treeT tlAssignment rfl (by kernel_rfl) (by kernel_rfl) (by kernel_rfl) (by kernel_rfl) (by decide)) (app_call2 treeT tlAssignment (by kernel_rfl) (by kernel_rfl) (by kernel_rfl) (by kernel_rfl) (by decide)) boolT (by kernel_rfl) (by kernel_rfl) (by kernel_rfl) (by kernel_rfl) (by kernel_rfl) (by decide)) ?_ rfl (by decide)
  refine TRun.cons2 (o':=7) (tl_null treeT (by kernel_rfl) (by kernel_rfl) (by kernel_rfl) (by kernel_rfl) (by kernel_rfl) (by decide)) (tl_loop (m2:=118) treeT (app_call1 treeT tlRevoked rfl (by kernel_rfl) (by kernel_rfl) (by kernel_rfl) (by kernel_rfl) (by decide)) (app_call2 treeT tlRevoked (by kernel_rfl) (by kernel_rfl) (by kernel_rfl) (by kernel_rfl) (by decide)) boolT (by kernel_rfl) (by kernel_rfl) (by kernel_rfl) (by kernel_rfl) (by kernel_rfl) (by decide)) ?_ rfl (by decide)
  refine TRun.cons (o':=8) (tl_num treeT (by kernel_rfl) (by kernel_rfl) (by kernel_rfl) (by kernel_rfl) (by kernel_rfl) (by decide) (by decide)) ?_ rfl (by decide)
  exact TRun.nil treeT (by decide)
theorem newV:NewVM Tryd.prog 30 (.int .i16::tR) [.n 0,.n 0,.s [],.s [],.n 0,.nil,.nil,.n 0]:=new_v (zs:=[.int .i16 0,.int .i16 0,.string ⟨#[]⟩,.string ⟨#[]⟩,.int .i64 0,.slice none 0 0,.slice none 0 0,.int .i32 0]) Tryd.func30 (by kernel_rfl) rfl rfl rfl (fBi (by kernel_rfl)) (fun w=>reps_zero (.int .i16::tR)) (fun w cs ys h=>reps_ones (by decide) h) dR
theorem rd1:ReadDK Tryd.prog 1 31 tR [.n 0,.s [],.s [],.n 0,.nil,.nil,.n 0] fl gR:=read_dk rf Tryd.func31 (by kernel_rfl) rfl rfl rfl
theorem rd2:ReadDK Tryd.prog 1 35 tR [.n 0,.s [],.s [],.n 0,.nil,.nil,.n 0] fl gR:=read_dk rf Tryd.func35 (by kernel_rfl) rfl rfl rfl
theorem door1:DoorK Tryd.prog 1 12 (doorResK gR fl tgR):=door_k (te:=5) (zs:=[.int .i16 0,.int .i16 0,.string ⟨#[]⟩,.string ⟨#[]⟩,.int .i64 0,.slice none 0 0,.slice none 0 0,.int .i32 0]) Tryd.func12 (by kernel_rfl) rfl rfl rfl treeT.flat (fBi (by kernel_rfl)) rfl (by kernel_rfl) (zeroB_is (by kernel_rfl)) (by kernel_rfl) (by kernel_rfl) (by kernel_rfl) (by kernel_rfl) (by kernel_rfl) (fun w cs ys h=>reps_ones (by decide) h) newV rd1 tlR
theorem door2:DoorK Tryd.prog 1 14 (doorResK gR fl tgR):=door_k (te:=5) (zs:=[.int .i16 0,.int .i16 0,.string ⟨#[]⟩,.string ⟨#[]⟩,.int .i64 0,.slice none 0 0,.slice none 0 0,.int .i32 0]) Tryd.func14 (by kernel_rfl) rfl rfl rfl treeT.flat (fBi (by kernel_rfl)) rfl (by kernel_rfl) (zeroB_is (by kernel_rfl)) (by kernel_rfl) (by kernel_rfl) (by kernel_rfl) (by kernel_rfl) (by kernel_rfl) (fun w cs ys h=>reps_ones (by decide) h) newV rd2 tlR
theorem lenZ:(partW fsQ 0 (decide ((-1:Int)≥0) && decide ((0:Int) ≥ -1)) .zero).length≤2147483648:=of_decide_eq_true (by kernel_rfl)
theorem canZ:(doorResK gR fl tgR (fxW 0 2++partW fsQ 0 (decide ((-1:Int)≥0) && decide ((0:Int) ≥ -1)) .zero)).2=true:=by kernel_rfl
theorem law:LawUK Tryd.prog 1 4:=lawuk_m (fx := -1) (fs:=fsQ) (enc:=partW fsQ) Tryd.func4 (by kernel_rfl) rfl rfl rfl treeT.flat (fBi (by kernel_rfl)) (by kernel_rfl) (by kernel_rfl) (by kernel_rfl) (by kernel_rfl) ifsQ (keptA fsQ (by decide)) door1 door2 (enters_of Tryd.func11 (by kernel_rfl) rfl) gotM (enters_of Tryd.func15 (by kernel_rfl) rfl) sameTree lenZ canZ
end Go.Proofs.YtnfcfigefdbkhaaDoor.ConnectMemberAssignment
