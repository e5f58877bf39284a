/- The parts of the law on JoinGroupResponse. Printed by gen_msg.py. -/
import Derived.Test.YtnfcfigefdbkhaaGreatDoorCJoinGroupResponse
import Derived.Test.YtnfcfigefdbkhaaGreatDoorKqCoT
import Derived.Test.YtnfcfigefdbkhaaGreatDoorKqP07
set_option linter.unusedVariables false
set_option linter.unusedSimpArgs false
namespace Go.Proofs.YtnfcfigefdbkhaaGreatDoor.JoinGroupResponse
open Go.Kq
def tMember:List Ty:=[.str,.pstr,.bytes,.tags]
def gMember:Rd:=(rdCons (rdOne fun _ fl st=>if fl then gCStr st else gStr st) (rdCons (rdIf (fun v=>decide (v≥5)) (.nil) (rdOne fun _ fl st=>if fl then gCNStr st else gNStr st)) (rdCons (rdOne fun _ fl st=>if fl then gCBytes st else gBytes st) (rdCons rdTagsF rdSt0))))
theorem dMember:DefM Tryz.prog 104 (tMember) id:=def_skip Tryz.func104 (by kernel_rfl) (by kernel_rfl) (by kernel_rfl)
def tR:List Ty:=[.int .i32,.int .i16,.int .i32,.pstr,.pstr,.str,.bool,.str,.arr (.st tMember),.tags]
def gR:Rd:=(rdCons (rdIf (fun v=>decide (v≥2)) (.n 0) (rdOne fun _ _=>gNum .i32 4)) (rdCons (rdOne fun _ _=>gNum .i16 2) (rdCons (rdOne fun _ _=>gNum .i32 4) (rdCons (rdIf (fun v=>decide (v≥7)) (.nil) (rdOne fun _ fl st=>if fl then gCNStr st else gNStr st)) (rdCons (rdOne fun v fl st=>if decide (v < 7) then (if fl then gCStr st else gStr st) else (if fl then gCNStr st else gNStr st)) (rdCons (rdOne fun _ fl st=>if fl then gCStr st else gStr st) (rdCons (rdIf (fun v=>decide (v≥9)) (.n 0) (rdOne fun _ _=>gBool)) (rdCons (rdOne fun _ fl st=>if fl then gCStr st else gStr st) (rdCons (rdArr (fun _ fl st=>if fl then gCALen st else gALen st) gMember) (rdCons rdTagsF rdSt0))))))))))
theorem dR:DefM Tryz.prog 66 (.int .i16::tR) (fun xs=>(xs.set 3 (.n (-1)))):=def_sets (N:=5) Tryz.func66 (by kernel_rfl) rfl rfl (by decide) rfl (DRun.one (i:=3) (ty:=.int .i32) (x:=.n (-1)) (by kernel_rfl) (by kernel_rfl) rfl rfl rfl rfl (fun w=>⟨_,rfl,rfl,by decide,by decide⟩) (by decide))
def fl:Int→Bool:=fun v=>decide (v≥6)
set_option maxRecDepth 20000 in
theorem rf:ReadM Tryz.prog 1 67 tR [.n 0,.n 0,.n (-1),.nil,.nil,.s [],.n 0,.s [],.nil,.nil] fl gR:=by
  refine root Tryz.func67 (by kernel_rfl) rfl rfl rfl ?_ dR (fun _=>rfl) readerT (by kernel_rfl) (by kernel_rfl) (isL_cons (isL_cons (isL_cons (isL_cons (isL_cons (isL_cons (isL_cons (isL_cons (isL_cons (isL_cons isL_nil)))))))))) (by decide);refine bdy_fl ?_ (by decide);refine Run.cons (m:=11) (o':=2) ?_ ?_ rfl (by decide) (by decide) (isL_cons (isL_cons (isL_cons (isL_cons (isL_cons (isL_cons (isL_cons (isL_cons (isL_cons isL_nil)))))))))
  · skip
    exact (fld_if (fld_asg (asg_call mInt32 (by decide)) (by kernel_rfl) (by kernel_rfl) rfl (by decide)) (fun i=>rfl) (by decide))
  refine Run.cons (m:=12) (o':=3) ?_ ?_ rfl (by decide) (by decide) (isL_cons (isL_cons (isL_cons (isL_cons (isL_cons (isL_cons (isL_cons (isL_cons isL_nil))))))))
  · skip
    exact (fld_asg (asg_call mInt16 (by decide)) (by kernel_rfl) (by kernel_rfl) rfl (by decide))
  refine Run.cons (m:=13) (o':=4) ?_ ?_ rfl (by decide) (by decide) (isL_cons (isL_cons (isL_cons (isL_cons (isL_cons (isL_cons (isL_cons isL_nil)))))))
  · skip
    exact (fld_asg (asg_call mInt32 (by decide)) (by kernel_rfl) (by kernel_rfl) rfl (by decide))
  refine Run.cons (m:=14) (o':=5) ?_ ?_ rfl (by decide) (by decide) (isL_cons (isL_cons (isL_cons (isL_cons (isL_cons (isL_cons isL_nil))))))
  · skip
    exact (fld_if (fld_var (fld_asg (asg_flex (u:=9) (asg_uns (asg_call mUnsafeCompactNullableString (by decide)) (asg_call mCompactNullableString (by decide)) (by decide)) (asg_uns (asg_call mUnsafeNullableString (by decide)) (asg_call mNullableString (by decide)) (by decide)) rfl (by decide)) (by kernel_rfl) (by kernel_rfl) rfl (by decide)) (by decide)) (fun i=>rfl) (by decide))
  refine Run.cons (m:=15) (o':=6) ?_ ?_ rfl (by decide) (by decide) (isL_cons (isL_cons (isL_cons (isL_cons (isL_cons isL_nil)))))
  · skip
    exact (fld_var (fld_asg (asg_old (asg_box (m':=17) (asgb_flex (u:=9) (asgb_uns (asgb_call mUnsafeCompactString (by kernel_rfl) (by decide)) (asgb_call mCompactString (by kernel_rfl) (by decide)) (by decide)) (asgb_uns (asgb_call mUnsafeString (by kernel_rfl) (by decide)) (asgb_call mString (by kernel_rfl) (by decide)) (by decide)) rfl (by decide)) (zeroB_is (z:=[.string ⟨#[]⟩]) (by kernel_rfl)) rfl (by decide)) (asg_flex (u:=9) (asg_uns (asg_call mUnsafeCompactNullableString (by decide)) (asg_call mCompactNullableString (by decide)) (by decide)) (asg_uns (asg_call mUnsafeNullableString (by decide)) (asg_call mNullableString (by decide)) (by decide)) rfl (by decide)) (fun i=>rfl) (by decide)) (by kernel_rfl) (by kernel_rfl) rfl (by decide)) (by decide))
  refine Run.cons (m:=17) (o':=7) ?_ ?_ rfl (by decide) (by decide) (isL_cons (isL_cons (isL_cons (isL_cons isL_nil))))
  · skip
    exact (fld_var (fld_asg (asg_uns (asg_flex (u:=9) (asg_call mUnsafeCompactString (by decide)) (asg_call mUnsafeString (by decide)) rfl (by decide)) (asg_flex (u:=9) (asg_call mCompactString (by decide)) (asg_call mString (by decide)) rfl (by decide)) (by decide)) (by kernel_rfl) (by kernel_rfl) rfl (by decide)) (by decide))
  refine Run.cons (m:=18) (o':=8) ?_ ?_ rfl (by decide) (by decide) (isL_cons (isL_cons (isL_cons isL_nil)))
  · skip
    exact (fld_if (fld_asg (asg_call mBool (by decide)) (by kernel_rfl) (by kernel_rfl) rfl (by decide)) (fun i=>rfl) (by decide))
  refine Run.cons (m:=19) (o':=9) ?_ ?_ rfl (by decide) (by decide) (isL_cons (isL_cons isL_nil))
  · skip
    exact (fld_var (fld_asg (asg_uns (asg_flex (u:=9) (asg_call mUnsafeCompactString (by decide)) (asg_call mUnsafeString (by decide)) rfl (by decide)) (asg_flex (u:=9) (asg_call mCompactString (by decide)) (asg_call mString (by decide)) rfl (by decide)) (by decide)) (by kernel_rfl) (by kernel_rfl) rfl (by decide)) (by decide))
  refine Run.cons (m:=20) (o':=10) ?_ ?_ rfl (by decide) (by decide) (isL_cons isL_nil)
  · skip
    refine fld_arr (m':=24) (e0:=111) (bs:=56) okM completeM (asg_flex (u:=9) (asg_call mCompactArrayLen (by decide)) (asg_call mArrayLen (by decide)) rfl (by decide)) ?_ (by kernel_rfl) (by decide) (by kernel_rfl) (by kernel_rfl) (by kernel_rfl) (zeroB_is (z:=[.string ⟨#[]⟩,.pointer none,.slice none 0 0,.map none]) (by kernel_rfl)) rfl rfl (by decide);refine elt_st (m':=26) (et:=111) (z0:=[.s [],.nil,.nil,.nil]) (bs:=56) ?_ dMember ?_ (by kernel_rfl) (by decide)
    · skip
      refine Fld.cons (m:=26) (m':=27) (o':=1) ?_ ?_ rfl (by decide) (by decide) (by decide)
      · skip
        exact (fld_var (fld_asg (asg_uns (asg_flex (u:=9) (asg_call mUnsafeCompactString (by decide)) (asg_call mUnsafeString (by decide)) rfl (by decide)) (asg_flex (u:=9) (asg_call mCompactString (by decide)) (asg_call mString (by decide)) rfl (by decide)) (by decide)) (by kernel_rfl) (by kernel_rfl) rfl (by decide)) (by decide))
      refine Fld.cons (m:=27) (m':=28) (o':=2) ?_ ?_ rfl (by decide) (by decide) (by decide)
      · skip
        exact (fld_if (fld_var (fld_asg (asg_flex (u:=9) (asg_uns (asg_call mUnsafeCompactNullableString (by decide)) (asg_call mCompactNullableString (by decide)) (by decide)) (asg_uns (asg_call mUnsafeNullableString (by decide)) (asg_call mNullableString (by decide)) (by decide)) rfl (by decide)) (by kernel_rfl) (by kernel_rfl) rfl (by decide)) (by decide)) (fun i=>rfl) (by decide))
      refine Fld.cons (m:=28) (m':=181) (o':=3) ?_ ?_ rfl (by decide) (by decide) (by decide)
      · skip
        exact (fld_var (fld_asg (asg_flex (u:=9) (asg_call mCompactBytes (by decide)) (asg_call mBytes (by decide)) rfl (by decide)) (by kernel_rfl) (by kernel_rfl) rfl (by decide)) (by decide))
      refine Fld.one ?_;exact (fld_tags (tf:=9) mTags (fBi (by kernel_rfl)) (by kernel_rfl) rfl (by decide))
    exact fun w=>reps_zero tMember
  refine Run.cons (m:=191) (o':=11) ?_ ?_ rfl (by decide) (by decide) isL_nil
  · skip
    exact (fld_tags (tf:=9) mTags (fBi (by kernel_rfl)) (by kernel_rfl) rfl (by decide))
  exact run_end completeM (by decide)
def gsMember:List (V→T):=[tStr,tText,tOcts]
def tgMember (x:V):T:=.mk 0 [] false (tellAll gsMember (x.items.drop 0)) (uOf gsMember (x.items.drop 0))
theorem cbMember:CbM Tryz.prog 108:=cb_m (et:=5) (TL:=34) (bs:=32) Tryz.func108 (by kernel_rfl) rfl rfl rfl (by kernel_rfl) treeT (by kernel_rfl) (by kernel_rfl) (by decide) tagF tagT (by kernel_rfl) octT
theorem tlMember:TellM Tryz.prog 70 (.st (tMember)) tgMember:=by
  refine tell_root (pre:=[]) (tys:=tMember) (st:=3) (m:=4) treeT Tryz.func70 (by kernel_rfl) rfl rfl rfl ?_ rfl rfl (by decide) (by decide);refine TRun.cons (o':=1) (tl_str treeT (by kernel_rfl) (by kernel_rfl) (by kernel_rfl) (by kernel_rfl) (by kernel_rfl) (by decide)) ?_ rfl (by decide);refine TRun.cons (o':=2) (tl_fn treeT textM (by kernel_rfl) (by kernel_rfl) (by kernel_rfl) rfl (by decide)) ?_ rfl (by decide);refine TRun.cons (o':=3) (tl_fn treeT octsM (by kernel_rfl) (by kernel_rfl) (by kernel_rfl) rfl (by decide)) ?_ rfl (by decide);exact TRun.tags treeT eachM cbMember sortedM (by kernel_rfl) (by kernel_rfl) (by decide)
def gsR:List (V→T):=[tNum,tNum,tNum,tText,tText,tStr,tBool,tStr,fun x=>.mk 0 [] x.isNil (x.items.map tgMember) []]
def tgR (x:V):T:=.mk 0 [] false (tellAll gsR (x.items.drop 1)) (uOf gsR (x.items.drop 1))
theorem cbR:CbM Tryz.prog 71:=cb_m (et:=5) (TL:=34) (bs:=32) Tryz.func71 (by kernel_rfl) rfl rfl rfl (by kernel_rfl) treeT (by kernel_rfl) (by kernel_rfl) (by decide) tagF tagT (by kernel_rfl) octT
theorem tlR:TellM Tryz.prog 42 (.st (.int .i16::tR)) tgR:=by
  refine tell_root (pre:=[.int .i16]) (tys:=tR) (st:=3) (m:=4) treeT Tryz.func42 (by kernel_rfl) rfl rfl rfl ?_ rfl rfl (by decide) (by decide);refine TRun.cons (o':=2) (tl_num treeT (by kernel_rfl) (by kernel_rfl) (by kernel_rfl) (by kernel_rfl) (by kernel_rfl) (by decide) (by decide)) ?_ rfl (by decide);refine TRun.cons (o':=3) (tl_num treeT (by kernel_rfl) (by kernel_rfl) (by kernel_rfl) (by kernel_rfl) (by kernel_rfl) (by decide) (by decide)) ?_ rfl (by decide);refine TRun.cons (o':=4) (tl_num treeT (by kernel_rfl) (by kernel_rfl) (by kernel_rfl) (by kernel_rfl) (by kernel_rfl) (by decide) (by decide)) ?_ rfl (by decide);refine TRun.cons (o':=5) (tl_fn treeT textM (by kernel_rfl) (by kernel_rfl) (by kernel_rfl) rfl (by decide)) ?_ rfl (by decide);refine TRun.cons (o':=6) (tl_fn treeT textM (by kernel_rfl) (by kernel_rfl) (by kernel_rfl) rfl (by decide)) ?_ rfl (by decide);refine TRun.cons (o':=7) (tl_str treeT (by kernel_rfl) (by kernel_rfl) (by kernel_rfl) (by kernel_rfl) (by kernel_rfl) (by decide)) ?_ rfl (by decide);refine TRun.cons (o':=8) (tl_fn treeT boolM (by kernel_rfl) (by kernel_rfl) (by kernel_rfl) rfl (by decide)) ?_ rfl (by decide);refine TRun.cons (o':=9) (tl_str treeT (by kernel_rfl) (by kernel_rfl) (by kernel_rfl) (by kernel_rfl) (by kernel_rfl) (by decide)) ?_ rfl (by decide);refine TRun.cons2 (o':=10) (tl_null treeT (by kernel_rfl) (by kernel_rfl) (by kernel_rfl) (by kernel_rfl) (by kernel_rfl) (by decide)) (tl_loop (m2:=95) treeT (app_call1 treeT tlMember rfl (by kernel_rfl) (by kernel_rfl) (by kernel_rfl) (by kernel_rfl) (by decide)) (app_call2 treeT tlMember (by kernel_rfl) (by kernel_rfl) (by kernel_rfl) (by kernel_rfl) (by decide)) boolT (by kernel_rfl) (by kernel_rfl) (by kernel_rfl) (by kernel_rfl) (by kernel_rfl) (by decide)) ?_ rfl (by decide);exact TRun.tags treeT eachM cbR sortedM (by kernel_rfl) (by kernel_rfl) (by decide)
theorem setM:SetM Tryz.prog 40:=set_m Tryz.func40 (by kernel_rfl) rfl rfl rfl (by kernel_rfl) (by kernel_rfl)
theorem newM:NewM Tryz.prog 37 (.int .i16::tR) [.n 0,.n 0,.n 0,.n (-1),.nil,.nil,.s [],.n 0,.s [],.nil,.nil]:=new_m (d:=(fun xs=>(xs.set 3 (.n (-1))))) Tryz.func37 (by kernel_rfl) rfl rfl rfl (zeroB_is (by kernel_rfl)) dR (by decide)
theorem maxM:MaxM Tryz.prog 15 9:=maxd_m (tys:=.int .i16::tR) (ds:=[.n 0,.n 0,.n 0,.n (-1),.nil,.nil,.s [],.n 0,.s [],.nil,.nil]) (mx:=((9:Nat):Int)) (fmx:=38) (fnw:=37) (f:=15) (P:=Tryz.prog) Tryz.func15 (by kernel_rfl) rfl rfl rfl newM (maxv_m Tryz.func38 (by kernel_rfl) rfl rfl rfl) (by decide) (by kernel_rfl) (by kernel_rfl)
theorem rd1:ReadD Tryz.prog 1 41 tR [.n 0,.n 0,.n (-1),.nil,.nil,.s [],.n 0,.s [],.nil,.nil] fl gR:=read_d rf Tryz.func41 (by kernel_rfl) rfl rfl rfl
theorem door:DoorGM Tryz.prog 1 17 (doorRes gR fl tgR):=doorg_m (te:=5) Tryz.func17 (by kernel_rfl) rfl rfl rfl treeT.flat (by kernel_rfl) (zeroB_is (by kernel_rfl)) (by kernel_rfl) (by kernel_rfl) (by kernel_rfl) newM setM rd1 tlR
def small (t:T):Prop:=KeysOk t∧∀ ver flex,(partW fsQ ver flex t).length≤2147483648
theorem ptMember (ver:Int) (h0:0≤ver) (t:T) (hk:KeysOk t):InvT gMember ver (fl ver) (RfN 0) fssQMember gsMember t.l 0 (if fl ver then unksW fssQMember t else []) (bodyL fssQMember ver (fl ver) t.l 0++if fl ver then uvW (unksW fssQMember t).length++tagsW (unksW fssQMember t) else []):=by
  refine invt_cons (by decide) (has_all h0 (by decide) (by decide)) (inqf_strS (by decide)) ?_;refine invt_gate (p:=fun v=>decide (v≥5)) (by decide) (has_ge (by decide)) inqf_pstr (by simp[UsB,Fd.kind,Fd.nul,Fd.df,tNum,tText,tStr,tBool,tOcts,numW,T.n,T.s,T.nl,T.l,IntKind.wrap,IntKind.signed,IntKind.bits]) ?_;refine invt_cons (by decide) (has_all h0 (by decide) (by decide)) (inqf_bytes (by decide)) ?_;exact invt_end hk
theorem poMember (ver:Int) (h0:0≤ver) (t:T):1≤(partW fssQMember ver (fl ver) t).length:=part_pos (by kernel_rfl) (body_head (has_all h0 (by decide) (by decide)) (fieldW_pos (by decide)))
theorem ptR (ver:Int) (h0:0≤ver) (t:T) (hk:KeysOk t):InvT gR ver (fl ver) (RfN 1) fsQ gsR t.l 0 (if fl ver then unksW fsQ t else []) (bodyL fsQ ver (fl ver) t.l 0++if fl ver then uvW (unksW fsQ t).length++tagsW (unksW fsQ t) else []):=by
  refine invt_gate (p:=fun v=>decide (v≥2)) (by decide) (has_ge (by decide)) (inqf_i32 (by decide)) (by simp[UsB,Fd.kind,Fd.nul,Fd.df,tNum,tText,tStr,tBool,tOcts,numW,T.n,T.s,T.nl,T.l,IntKind.wrap,IntKind.signed,IntKind.bits]) ?_;refine invt_cons (by decide) (has_all h0 (by decide) (by decide)) (inqf_i16 (by decide)) ?_;refine invt_cons (by decide) (has_all h0 (by decide) (by decide)) (inqf_i32 (by decide)) ?_;refine invt_gate (p:=fun v=>decide (v≥7)) (by decide) (has_ge (by decide)) inqf_pstr (by simp[UsB,Fd.kind,Fd.nul,Fd.df,tNum,tText,tStr,tBool,tOcts,numW,T.n,T.s,T.nl,T.l,IntKind.wrap,IntKind.signed,IntKind.bits]) ?_;refine invt_cons (by decide) (has_all h0 (by decide) (by decide)) inqf_pstrO ?_;refine invt_cons (by decide) (has_all h0 (by decide) (by decide)) (inqf_strS (by decide)) ?_;refine invt_gate (p:=fun v=>decide (v≥9)) (by decide) (has_ge (by decide)) (inqf_bool (by decide)) (by simp[UsB,Fd.kind,Fd.nul,Fd.df,tNum,tText,tStr,tBool,tOcts,numW,T.n,T.s,T.nl,T.l,IntKind.wrap,IntKind.signed,IntKind.bits]) ?_;refine invt_cons (by decide) (has_all h0 (by decide) (by decide)) (inqf_strS (by decide)) ?_;refine invt_cons (by decide) (has_all h0 (by decide) (by decide)) (inqf_arr (by decide) (fun z hz=>inq_el (by kernel_rfl) rfl (ptMember ver h0 z ((KeysOk.at hk.l 8).l z hz))) (fun z=>value_pos10 (poMember ver h0 z))) ?_;exact invt_end hk
theorem law:LawT Tryz.prog 1 4 small:=by
  refine lawt_m (mx:=9) (fs:=fsQ) (enc:=partW fsQ) Tryz.func4 (by kernel_rfl) rfl rfl rfl (fBi (by kernel_rfl)) (fBi (by kernel_rfl)) (fBi (by kernel_rfl)) (by kernel_rfl) (by kernel_rfl) (by kernel_rfl) wFit maxM (by decide) ifsQ verM (wWrite fsQ (by decide)) door flexM (⟨enters_of Tryz.func14 (by kernel_rfl) rfl,gotM⟩) (toldN 1 fsQ (by kernel_rfl)) ?_;rintro ver h0 h1 t ⟨hk,hs⟩;refine ⟨hs _ _,?_⟩;rw[show (decide ((6:Int)≥0) && decide (ver≥6))=fl ver from by simp[fl]];exact td_plain (flx:=fl) (by kernel_rfl) (fun _=>rfl) (ptR ver h0 t hk)
end Go.Proofs.YtnfcfigefdbkhaaGreatDoor.JoinGroupResponse
