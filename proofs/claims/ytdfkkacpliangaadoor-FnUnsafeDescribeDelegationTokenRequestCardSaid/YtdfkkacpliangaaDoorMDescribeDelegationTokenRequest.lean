/- The parts of the law on DescribeDelegationTokenRequest: what the codes that it reaches give. Printed by gen_msg.py. -/
import Derived.Test.YtdfkkacpliangaaDoorKqCom
namespace Go.Proofs.YtdfkkacpliangaaDoor.DescribeDelegationTokenRequest
open Go.Kq
def tOwner : List Ty := [.str, .str, .tags]
def gOwner : Rd := (rdCons (rdOne fun _ fl st => if fl then gCStr st else gStr st) (rdCons (rdOne fun _ fl st => if fl then gCStr st else gStr st) (rdCons rdTagsF rdSt0)))
theorem dOwner : DefM Tryd.prog 67 (tOwner) id := def_skip Tryd.func67 (by kernel_rfl) (by kernel_rfl) (by kernel_rfl)
def tR : List Ty := [.arr (.st tOwner), .tags]
def gR : Rd := (rdCons (rdArrN (0) (fun _ fl st => if fl then gCALen st else gALen st) gOwner) (rdCons rdTagsF rdSt0))
theorem dR : DefM Tryd.prog 46 (.int .i16 :: tR) id := def_skip Tryd.func46 (by kernel_rfl) (by kernel_rfl) (by kernel_rfl)
def fl : Int → Bool := fun v => decide (v ≥ 2)
set_option maxRecDepth 20000 in
theorem rf : ReadM Tryd.prog 1 47 tR [.nil, .nil] fl gR := by
  refine root Tryd.func47 (by kernel_rfl) rfl rfl rfl ?_ dR (fun _ => rfl) readerT (by kernel_rfl) (by kernel_rfl) (isL_cons (isL_cons isL_nil)) (by decide)
  refine bdy_fl ?_ (by decide)
  refine Run.cons (m := 11) (o' := 2) ?_ ?_ rfl (by decide) (by decide) (isL_cons isL_nil)
  · skip
    refine fld_arrN (m' := 15) (e0 := 77) (bs := 40) okM completeM (asg_flex (u := 9) (asg_call mCompactArrayLen (by decide)) (asg_call mArrayLen (by decide)) rfl (by decide)) ?_ (by kernel_rfl) (by decide) (by kernel_rfl) (by kernel_rfl) (by kernel_rfl) (zeroB_is (z := [.string ⟨#[]⟩, .string ⟨#[]⟩, .map none]) (by kernel_rfl)) rfl rfl (by decide) (by decide)
    refine elt_st (m' := 17) (et := 77) (z0 := [.s [], .s [], .nil]) (bs := 40) ?_ dOwner ?_ (by kernel_rfl) (by decide)
    · skip
      refine Fld.cons (m := 17) (m' := 18) (o' := 1) ?_ ?_ rfl (by decide) (by decide) (by decide)
      · skip
        exact (fld_var (fld_asg (asg_uns (asg_flex (u := 9) (asg_call mUnsafeCompactString (by decide)) (asg_call mUnsafeString (by decide)) rfl (by decide)) (asg_flex (u := 9) (asg_call mCompactString (by decide)) (asg_call mString (by decide)) rfl (by decide)) (by decide)) (by kernel_rfl) (by kernel_rfl) rfl (by decide)) (by decide))
      refine Fld.cons (m := 18) (m' := 90) (o' := 2) ?_ ?_ rfl (by decide) (by decide) (by decide)
      · skip
        exact (fld_var (fld_asg (asg_uns (asg_flex (u := 9) (asg_call mUnsafeCompactString (by decide)) (asg_call mUnsafeString (by decide)) rfl (by decide)) (asg_flex (u := 9) (asg_call mCompactString (by decide)) (asg_call mString (by decide)) rfl (by decide)) (by decide)) (by kernel_rfl) (by kernel_rfl) rfl (by decide)) (by decide))
      refine Fld.one ?_
      exact (fld_tags (tf := 9) mTags (flatB_is (by kernel_rfl)) (by kernel_rfl) rfl (by decide))
    · exact fun w => reps_zero tOwner
  refine Run.cons (m := 100) (o' := 3) ?_ ?_ rfl (by decide) (by decide) isL_nil
  · skip
    exact (fld_tags (tf := 9) mTags (flatB_is (by kernel_rfl)) (by kernel_rfl) rfl (by decide))
  exact run_end completeM (by decide)
def gsOwner : List (V → T) := [tStr, tStr]
def tgOwner (x : V) : T := .mk 0 [] false (tellAll gsOwner (x.items.drop 0)) (uOf gsOwner (x.items.drop 0))
theorem cbOwner : CbM Tryd.prog 68 := cb_m (et := 5) (TL := 24) (bs := 32) Tryd.func68 (by kernel_rfl) rfl rfl rfl (by kernel_rfl) treeT (by kernel_rfl) (by kernel_rfl) (by decide) tagF tagT (by kernel_rfl) octT
theorem tlOwner : TellM Tryd.prog 48 (.st (tOwner)) tgOwner := by
  refine tell_root (pre := []) (tys := tOwner) (st := 3) (m := 4) treeT Tryd.func48 (by kernel_rfl) rfl rfl rfl ?_ rfl rfl (by decide) (by decide)
  refine TRun.cons (o' := 1) (tl_str treeT (by kernel_rfl) (by kernel_rfl) (by kernel_rfl) (by kernel_rfl) (by kernel_rfl) (by decide)) ?_ rfl (by decide)
  refine TRun.cons (o' := 2) (tl_str treeT (by kernel_rfl) (by kernel_rfl) (by kernel_rfl) (by kernel_rfl) (by kernel_rfl) (by decide)) ?_ rfl (by decide)
  exact TRun.tags treeT eachM cbOwner sortedM (by kernel_rfl) (by kernel_rfl) (by decide)
def gsR : List (V → T) := [fun x => .mk 0 [] x.isNil (x.items.map tgOwner) []]
def tgR (x : V) : T := .mk 0 [] false (tellAll gsR (x.items.drop 1)) (uOf gsR (x.items.drop 1))
theorem cbR : CbM Tryd.prog 49 := cb_m (et := 5) (TL := 24) (bs := 32) Tryd.func49 (by kernel_rfl) rfl rfl rfl (by kernel_rfl) treeT (by kernel_rfl) (by kernel_rfl) (by decide) tagF tagT (by kernel_rfl) octT
theorem tlR : TellM Tryd.prog 35 (.st (.int .i16 :: tR)) tgR := by
  refine tell_root (pre := [.int .i16]) (tys := tR) (st := 3) (m := 4) treeT Tryd.func35 (by kernel_rfl) rfl rfl rfl ?_ rfl rfl (by decide) (by decide)
  refine TRun.cons2 (o' := 2) (tl_null treeT (by kernel_rfl) (by kernel_rfl) (by kernel_rfl) (by kernel_rfl) (by kernel_rfl) (by decide)) (tl_loop (m2 := 26) treeT (app_call1 treeT tlOwner rfl (by kernel_rfl) (by kernel_rfl) (by kernel_rfl) (by kernel_rfl) (by decide)) (app_call2 treeT tlOwner (by kernel_rfl) (by kernel_rfl) (by kernel_rfl) (by kernel_rfl) (by decide)) boolT (by kernel_rfl) (by kernel_rfl) (by kernel_rfl) (by kernel_rfl) (by kernel_rfl) (by decide)) ?_ rfl (by decide)
  exact TRun.tags treeT eachM cbR sortedM (by kernel_rfl) (by kernel_rfl) (by decide)
theorem setM : SetM Tryd.prog 33 := set_m Tryd.func33 (by kernel_rfl) rfl rfl rfl (by kernel_rfl) (by kernel_rfl)
theorem newM : NewM Tryd.prog 31 (.int .i16 :: tR) [.n 0, .nil, .nil] := new_m (d := id) Tryd.func31 (by kernel_rfl) rfl rfl rfl (zeroB_is (by kernel_rfl)) dR (by decide)
theorem maxM : MaxM Tryd.prog 15 3 := maxd_m (tys := .int .i16 :: tR) (ds := [.n 0, .nil, .nil]) (mx := ((3 : Nat) : Int)) (fmx := 32) (fnw := 31) (f := 15) (P := Tryd.prog) Tryd.func15 (by kernel_rfl) rfl rfl rfl newM (maxv_m Tryd.func32 (by kernel_rfl) rfl rfl rfl) (by decide) (by kernel_rfl) (by kernel_rfl)
theorem rd1 : ReadD Tryd.prog 1 34 tR [.nil, .nil] fl gR := read_d rf Tryd.func34 (by kernel_rfl) rfl rfl rfl
theorem rd2 : ReadD Tryd.prog 1 36 tR [.nil, .nil] fl gR := read_d rf Tryd.func36 (by kernel_rfl) rfl rfl rfl
theorem door1 : DoorM Tryd.prog 1 16 (doorRes gR fl tgR) := door_m (te := 5) Tryd.func16 (by kernel_rfl) rfl rfl rfl treeT.flat (by kernel_rfl) (zeroB_is (by kernel_rfl)) (by kernel_rfl) (by kernel_rfl) (by kernel_rfl) newM setM rd1 tlR
theorem door2 : DoorM Tryd.prog 1 17 (doorRes gR fl tgR) := door_m (te := 5) Tryd.func17 (by kernel_rfl) rfl rfl rfl treeT.flat (by kernel_rfl) (zeroB_is (by kernel_rfl)) (by kernel_rfl) (by kernel_rfl) (by kernel_rfl) newM setM rd2 tlR
theorem law : LawU Tryd.prog 1 5 := lawu_m (mx := 3) (te := 5) Tryd.func5 (by kernel_rfl) rfl rfl rfl (by kernel_rfl) treeT.flat (by kernel_rfl) (by kernel_rfl) (by kernel_rfl) maxM (by decide) verM door1 door2 (enters_of Tryd.func11 (by kernel_rfl) rfl) gotM (enters_of Tryd.func10 (by kernel_rfl) rfl) sameTree
end Go.Proofs.YtdfkkacpliangaaDoor.DescribeDelegationTokenRequest
