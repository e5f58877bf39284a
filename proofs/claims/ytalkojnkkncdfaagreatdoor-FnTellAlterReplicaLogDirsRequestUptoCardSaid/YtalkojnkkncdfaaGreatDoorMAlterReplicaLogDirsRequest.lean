/- The parts of the law on AlterReplicaLogDirsRequest. Printed by gen_msg.py. -/
import Derived.Test.YtalkojnkkncdfaaGreatDoorCAlterReplicaLogDirsRequest
import Derived.Test.YtalkojnkkncdfaaGreatDoorKqCoT
import Derived.Test.YtalkojnkkncdfaaGreatDoorKqP06
set_option linter.unusedVariables false
set_option linter.unusedSimpArgs false
namespace Go.Proofs.YtalkojnkkncdfaaGreatDoor.AlterReplicaLogDirsRequest
open Go.Kq
def tDirTopic : List Ty := [.str, .arr (.int .i32), .tags]
def gDirTopic : Rd := (rdCons (rdOne fun _ fl st => if fl then gCStr st else gStr st) (rdCons (rdArr (fun _ fl st => if fl then gCALen st else gALen st) (rdOne fun _ _ => gNum .i32 4)) (rdCons rdTagsF rdSt0)))
theorem dDirTopic : DefM Tryz.prog 120 (tDirTopic) id := def_skip Tryz.func120 (by kernel_rfl) (by kernel_rfl) (by kernel_rfl)
def tDir : List Ty := [.str, .arr (.st tDirTopic), .tags]
def gDir : Rd := (rdCons (rdOne fun _ fl st => if fl then gCStr st else gStr st) (rdCons (rdArr (fun _ fl st => if fl then gCALen st else gALen st) gDirTopic) (rdCons rdTagsF rdSt0)))
theorem dDir : DefM Tryz.prog 119 (tDir) id := def_skip Tryz.func119 (by kernel_rfl) (by kernel_rfl) (by kernel_rfl)
def tR : List Ty := [.arr (.st tDir), .tags]
def gR : Rd := (rdCons (rdArr (fun _ fl st => if fl then gCALen st else gALen st) gDir) (rdCons rdTagsF rdSt0))
theorem dR : DefM Tryz.prog 81 (.int .i16 :: tR) id := def_skip Tryz.func81 (by kernel_rfl) (by kernel_rfl) (by kernel_rfl)
def fl : Int → Bool := fun v => decide (v ≥ 2)
set_option maxRecDepth 20000 in
theorem rf : ReadM Tryz.prog 0 83 tR [.nil, .nil] fl gR := by
  refine root Tryz.func83 (by kernel_rfl) rfl rfl rfl ?_ dR (fun _ => rfl) readerT (by kernel_rfl) (by kernel_rfl) (isL_cons (isL_cons isL_nil)) (by decide);refine bdy_fl ?_ (by decide);refine Run.cons (m := 11) (o' := 2) ?_ ?_ rfl (by decide) (by decide) (isL_cons isL_nil)
  · skip
    refine fld_arr (m' := 15) (e0 := 122) (bs := 48) okM completeM (asg_flex (u := 9) (asg_call mCompactArrayLen (by decide)) (asg_call mArrayLen (by decide)) rfl (by decide)) ?_ (by kernel_rfl) (by decide) (by kernel_rfl) (by kernel_rfl) (by kernel_rfl) (zeroB_is (z := [.string ⟨#[]⟩, .slice none 0 0, .map none]) (by kernel_rfl)) rfl rfl (by decide);refine elt_st (m' := 17) (et := 122) (z0 := [.s [], .nil, .nil]) (bs := 48) ?_ dDir ?_ (by kernel_rfl) (by decide)
    · skip
      refine Fld.cons (m := 17) (m' := 18) (o' := 1) ?_ ?_ rfl (by decide) (by decide) (by decide)
      · skip
        exact (fld_var (fld_asg (asg_uns (asg_flex (u := 9) (asg_call mUnsafeCompactString (by decide)) (asg_call mUnsafeString (by decide)) rfl (by decide)) (asg_flex (u := 9) (asg_call mCompactString (by decide)) (asg_call mString (by decide)) rfl (by decide)) (by decide)) (by kernel_rfl) (by kernel_rfl) rfl (by decide)) (by decide))
      refine Fld.cons (m := 18) (m' := 166) (o' := 2) ?_ ?_ rfl (by decide) (by decide) (by decide)
      · skip
        refine fld_arr (m' := 22) (e0 := 160) (bs := 48) okM completeM (asg_flex (u := 9) (asg_call mCompactArrayLen (by decide)) (asg_call mArrayLen (by decide)) rfl (by decide)) ?_ (by kernel_rfl) (by decide) (by kernel_rfl) (by kernel_rfl) (by kernel_rfl) (zeroB_is (z := [.string ⟨#[]⟩, .slice none 0 0, .map none]) (by kernel_rfl)) rfl rfl (by decide);refine elt_st (m' := 24) (et := 160) (z0 := [.s [], .nil, .nil]) (bs := 48) ?_ dDirTopic ?_ (by kernel_rfl) (by decide)
        · skip
          refine Fld.cons (m := 24) (m' := 25) (o' := 1) ?_ ?_ rfl (by decide) (by decide) (by decide)
          · skip
            exact (fld_var (fld_asg (asg_uns (asg_flex (u := 9) (asg_call mUnsafeCompactString (by decide)) (asg_call mUnsafeString (by decide)) rfl (by decide)) (asg_flex (u := 9) (asg_call mCompactString (by decide)) (asg_call mString (by decide)) rfl (by decide)) (by decide)) (by kernel_rfl) (by kernel_rfl) rfl (by decide)) (by decide))
          refine Fld.cons (m := 25) (m' := 156) (o' := 2) ?_ ?_ rfl (by decide) (by decide) (by decide)
          · skip
            refine fld_arr (m' := 29) (e0 := 21) (bs := 4) okM completeM (asg_flex (u := 9) (asg_call mCompactArrayLen (by decide)) (asg_call mArrayLen (by decide)) rfl (by decide)) ?_ (by kernel_rfl) (by decide) (by kernel_rfl) (by kernel_rfl) (by kernel_rfl) (zeroB_is (z := [.int .i32 0]) (by kernel_rfl)) rfl rfl (by decide);exact elt_one (m' := 29) (et := 21) (bs := 4) (asg_call mInt32 (by decide)) (by kernel_rfl) (by kernel_rfl) rfl (by decide)
          refine Fld.one ?_;exact (fld_tags (tf := 9) mTags (flatB_is (by kernel_rfl)) (by kernel_rfl) rfl (by decide))
        exact fun w => reps_zero tDirTopic
      refine Fld.one ?_;exact (fld_tags (tf := 9) mTags (flatB_is (by kernel_rfl)) (by kernel_rfl) rfl (by decide))
    exact fun w => reps_zero tDir
  refine Run.cons (m := 176) (o' := 3) ?_ ?_ rfl (by decide) (by decide) isL_nil
  · skip
    exact (fld_tags (tf := 9) mTags (flatB_is (by kernel_rfl)) (by kernel_rfl) rfl (by decide))
  exact run_end completeM (by decide)
def gsDirTopic : List (V → T) := [tStr, fun x => .mk 0 [] x.isNil (x.items.map tNum) []]
def tgDirTopic (x : V) : T := .mk 0 [] false (tellAll gsDirTopic (x.items.drop 0)) (uOf gsDirTopic (x.items.drop 0))
theorem cbDirTopic : CbM Tryz.prog 142 := cb_m (et := 5) (TL := 34) (bs := 32) Tryz.func142 (by kernel_rfl) rfl rfl rfl (by kernel_rfl) treeT (by kernel_rfl) (by kernel_rfl) (by decide) tagF tagT (by kernel_rfl) octT
theorem tlDirTopic : TellM Tryz.prog 121 (.st (tDirTopic)) tgDirTopic := by
  refine tell_root (pre := []) (tys := tDirTopic) (st := 3) (m := 4) treeT Tryz.func121 (by kernel_rfl) rfl rfl rfl ?_ rfl rfl (by decide) (by decide);refine TRun.cons (o' := 1) (tl_str treeT (by kernel_rfl) (by kernel_rfl) (by kernel_rfl) (by kernel_rfl) (by kernel_rfl) (by decide)) ?_ rfl (by decide);refine TRun.cons2 (o' := 2) (tl_null treeT (by kernel_rfl) (by kernel_rfl) (by kernel_rfl) (by kernel_rfl) (by kernel_rfl) (by decide)) (tl_loop (m2 := 35) treeT (app_num1 treeT (by kernel_rfl) (by kernel_rfl) (by kernel_rfl) (by kernel_rfl) rfl (by kernel_rfl) (by kernel_rfl) (by kernel_rfl) (by kernel_rfl) (by decide)) (app_num2 treeT (by kernel_rfl) (by kernel_rfl) (by kernel_rfl) (by kernel_rfl) (by kernel_rfl) (by kernel_rfl) (by kernel_rfl) (by kernel_rfl) (by decide)) boolT (by kernel_rfl) (by kernel_rfl) (by kernel_rfl) (by kernel_rfl) (by kernel_rfl) (by decide)) ?_ rfl (by decide);exact TRun.tags treeT eachM cbDirTopic sortedM (by kernel_rfl) (by kernel_rfl) (by decide)
def gsDir : List (V → T) := [tStr, fun x => .mk 0 [] x.isNil (x.items.map tgDirTopic) []]
def tgDir (x : V) : T := .mk 0 [] false (tellAll gsDir (x.items.drop 0)) (uOf gsDir (x.items.drop 0))
theorem cbDir : CbM Tryz.prog 122 := cb_m (et := 5) (TL := 34) (bs := 32) Tryz.func122 (by kernel_rfl) rfl rfl rfl (by kernel_rfl) treeT (by kernel_rfl) (by kernel_rfl) (by decide) tagF tagT (by kernel_rfl) octT
theorem tlDir : TellM Tryz.prog 84 (.st (tDir)) tgDir := by
  refine tell_root (pre := []) (tys := tDir) (st := 3) (m := 4) treeT Tryz.func84 (by kernel_rfl) rfl rfl rfl ?_ rfl rfl (by decide) (by decide);refine TRun.cons (o' := 1) (tl_str treeT (by kernel_rfl) (by kernel_rfl) (by kernel_rfl) (by kernel_rfl) (by kernel_rfl) (by decide)) ?_ rfl (by decide);refine TRun.cons2 (o' := 2) (tl_null treeT (by kernel_rfl) (by kernel_rfl) (by kernel_rfl) (by kernel_rfl) (by kernel_rfl) (by decide)) (tl_loop (m2 := 35) treeT (app_call1 treeT tlDirTopic rfl (by kernel_rfl) (by kernel_rfl) (by kernel_rfl) (by kernel_rfl) (by decide)) (app_call2 treeT tlDirTopic (by kernel_rfl) (by kernel_rfl) (by kernel_rfl) (by kernel_rfl) (by decide)) boolT (by kernel_rfl) (by kernel_rfl) (by kernel_rfl) (by kernel_rfl) (by kernel_rfl) (by decide)) ?_ rfl (by decide);exact TRun.tags treeT eachM cbDir sortedM (by kernel_rfl) (by kernel_rfl) (by decide)
def gsR : List (V → T) := [fun x => .mk 0 [] x.isNil (x.items.map tgDir) []]
def tgR (x : V) : T := .mk 0 [] false (tellAll gsR (x.items.drop 1)) (uOf gsR (x.items.drop 1))
theorem cbR : CbM Tryz.prog 85 := cb_m (et := 5) (TL := 34) (bs := 32) Tryz.func85 (by kernel_rfl) rfl rfl rfl (by kernel_rfl) treeT (by kernel_rfl) (by kernel_rfl) (by decide) tagF tagT (by kernel_rfl) octT
theorem tlR : TellM Tryz.prog 52 (.st (.int .i16 :: tR)) tgR := by
  refine tell_root (pre := [.int .i16]) (tys := tR) (st := 3) (m := 4) treeT Tryz.func52 (by kernel_rfl) rfl rfl rfl ?_ rfl rfl (by decide) (by decide);refine TRun.cons2 (o' := 2) (tl_null treeT (by kernel_rfl) (by kernel_rfl) (by kernel_rfl) (by kernel_rfl) (by kernel_rfl) (by decide)) (tl_loop (m2 := 26) treeT (app_call1 treeT tlDir rfl (by kernel_rfl) (by kernel_rfl) (by kernel_rfl) (by kernel_rfl) (by decide)) (app_call2 treeT tlDir (by kernel_rfl) (by kernel_rfl) (by kernel_rfl) (by kernel_rfl) (by decide)) boolT (by kernel_rfl) (by kernel_rfl) (by kernel_rfl) (by kernel_rfl) (by kernel_rfl) (by decide)) ?_ rfl (by decide);exact TRun.tags treeT eachM cbR sortedM (by kernel_rfl) (by kernel_rfl) (by decide)
theorem setM : SetM Tryz.prog 50 := set_m Tryz.func50 (by kernel_rfl) rfl rfl rfl (by kernel_rfl) (by kernel_rfl)
theorem newM : NewM Tryz.prog 47 (.int .i16 :: tR) [.n 0, .nil, .nil] := new_m (d := id) Tryz.func47 (by kernel_rfl) rfl rfl rfl (zeroB_is (by kernel_rfl)) dR (by decide)
theorem maxM : MaxM Tryz.prog 19 2 := maxd_m (tys := .int .i16 :: tR) (ds := [.n 0, .nil, .nil]) (mx := ((2 : Nat) : Int)) (fmx := 48) (fnw := 47) (f := 19) (P := Tryz.prog) Tryz.func19 (by kernel_rfl) rfl rfl rfl newM (maxv_m Tryz.func48 (by kernel_rfl) rfl rfl rfl) (by decide) (by kernel_rfl) (by kernel_rfl)
theorem rd1 : ReadD Tryz.prog 0 51 tR [.nil, .nil] fl gR := read_d rf Tryz.func51 (by kernel_rfl) rfl rfl rfl
theorem door : DoorGM Tryz.prog 0 21 (doorRes gR fl tgR) := doorg_m (te := 5) Tryz.func21 (by kernel_rfl) rfl rfl rfl treeT.flat (by kernel_rfl) (zeroB_is (by kernel_rfl)) (by kernel_rfl) (by kernel_rfl) (by kernel_rfl) newM setM rd1 tlR
def small (t : T) : Prop := KeysOk t ∧ ∀ ver flex, (partW fsQ ver flex t).length ≤ 2147483648
theorem ptDirTopic (ver : Int) (h0 : 0 ≤ ver) (t : T) (hk : KeysOk t) : InvT gDirTopic ver (fl ver) (RfN 1) fssQDirTopic gsDirTopic t.l 0 (if fl ver then unksW fssQDirTopic t else []) (bodyL fssQDirTopic ver (fl ver) t.l 0 ++ if fl ver then uvW (unksW fssQDirTopic t).length ++ tagsW (unksW fssQDirTopic t) else []) := by
  refine invt_cons (by decide) (has_all h0 (by decide) (by decide)) (inqf_strS (by decide)) ?_;refine invt_cons (by decide) (has_all h0 (by decide) (by decide)) (inqf_arr (by decide) (fun z hz => inq_el_i32) (fun z => value_pos (by decide))) ?_;exact invt_end hk
theorem poDirTopic (ver : Int) (h0 : 0 ≤ ver) (t : T) : 1 ≤ (partW fssQDirTopic ver (fl ver) t).length := part_pos (by kernel_rfl) (body_head (has_all h0 (by decide) (by decide)) (fieldW_pos (by decide)))
theorem ptDir (ver : Int) (h0 : 0 ≤ ver) (t : T) (hk : KeysOk t) : InvT gDir ver (fl ver) (RfN 2) fssQDir gsDir t.l 0 (if fl ver then unksW fssQDir t else []) (bodyL fssQDir ver (fl ver) t.l 0 ++ if fl ver then uvW (unksW fssQDir t).length ++ tagsW (unksW fssQDir t) else []) := by
  refine invt_cons (by decide) (has_all h0 (by decide) (by decide)) (inqf_strS (by decide)) ?_;refine invt_cons (by decide) (has_all h0 (by decide) (by decide)) (inqf_arr (by decide) (fun z hz => inq_el (by kernel_rfl) rfl (ptDirTopic ver h0 z ((KeysOk.at hk.l 1).l z hz))) (fun z => value_pos10 (poDirTopic ver h0 z))) ?_;exact invt_end hk
theorem poDir (ver : Int) (h0 : 0 ≤ ver) (t : T) : 1 ≤ (partW fssQDir ver (fl ver) t).length := part_pos (by kernel_rfl) (body_head (has_all h0 (by decide) (by decide)) (fieldW_pos (by decide)))
theorem ptR (ver : Int) (h0 : 0 ≤ ver) (t : T) (hk : KeysOk t) : InvT gR ver (fl ver) (RfN 3) fsQ gsR t.l 0 (if fl ver then unksW fsQ t else []) (bodyL fsQ ver (fl ver) t.l 0 ++ if fl ver then uvW (unksW fsQ t).length ++ tagsW (unksW fsQ t) else []) := by
  refine invt_cons (by decide) (has_all h0 (by decide) (by decide)) (inqf_arr (by decide) (fun z hz => inq_el (by kernel_rfl) rfl (ptDir ver h0 z ((KeysOk.at hk.l 0).l z hz))) (fun z => value_pos10 (poDir ver h0 z))) ?_;exact invt_end hk
theorem law : LawT Tryz.prog 0 5 small := by
  refine lawt_m (mx := 2) (fs := fsQ) (enc := partW fsQ) Tryz.func5 (by kernel_rfl) rfl rfl rfl (flatB_is (by kernel_rfl)) (flatB_is (by kernel_rfl)) (flatB_is (by kernel_rfl)) (by kernel_rfl) (by kernel_rfl) (by kernel_rfl) wFit maxM (by decide) ifsQ verM (wWrite fsQ (by decide)) door flexM (⟨enters_of Tryz.func15 (by kernel_rfl) rfl, gotM⟩) (toldN 3 fsQ (by kernel_rfl)) ?_;rintro ver h0 h1 t ⟨hk, hs⟩;refine ⟨hs _ _, ?_⟩;rw [show (decide ((2 : Int) ≥ 0) && decide (ver ≥ 2)) = fl ver from by simp [fl]];exact td_plain (flx := fl) (by kernel_rfl) (fun _ => rfl) (ptR ver h0 t hk)
end Go.Proofs.YtalkojnkkncdfaaGreatDoor.AlterReplicaLogDirsRequest
