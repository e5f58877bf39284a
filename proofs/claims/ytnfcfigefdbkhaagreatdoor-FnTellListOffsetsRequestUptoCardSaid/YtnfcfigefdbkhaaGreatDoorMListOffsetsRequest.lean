/- The parts of the law on ListOffsetsRequest. Printed by gen_msg.py. -/
import Derived.Test.YtnfcfigefdbkhaaGreatDoorCListOffsetsRequest
import Derived.Test.YtnfcfigefdbkhaaGreatDoorKqCoT
import Derived.Test.YtnfcfigefdbkhaaGreatDoorKqP07
set_option linter.unusedVariables false
set_option linter.unusedSimpArgs false
namespace Go.Proofs.YtnfcfigefdbkhaaGreatDoor.ListOffsetsRequest
open Go.Kq
def tTopicPartition:List Ty:=[.int .i32,.int .i32,.int .i64,.int .i32,.tags]
def gTopicPartition:Rd:=(rdCons (rdOne fun _ _=>gNum .i32 4) (rdCons (rdIf (fun v=>decide (v≥4)) (.n (-1)) (rdOne fun _ _=>gNum .i32 4)) (rdCons (rdOne fun _ _=>gNum .i64 8) (rdCons (rdIf (fun v=>decide (v≥0) && decide (v≤0)) (.n (1)) (rdOne fun _ _=>gNum .i32 4)) (rdCons rdTagsF rdSt0)))))
theorem dTopicPartition:DefM Tryz.prog 89 (tTopicPartition) (fun xs=>((xs.set 1 (.n (-1))).set 3 (.n (1)))):=def_sets (N:=8) Tryz.func89 (by kernel_rfl) rfl rfl (by decide) rfl (DRun.cons (DRun.one (i:=1) (ty:=.int .i32) (x:=.n (-1)) (by kernel_rfl) (by kernel_rfl) rfl rfl rfl rfl (fun w=>⟨_,rfl,rfl,by decide,by decide⟩) (by decide)) (DRun.one (i:=3) (ty:=.int .i32) (x:=.n (1)) (by kernel_rfl) (by kernel_rfl) rfl rfl rfl rfl (fun w=>⟨_,rfl,rfl,by decide,by decide⟩) (by decide)))
def tTopic:List Ty:=[.str,.arr (.st tTopicPartition),.tags]
def gTopic:Rd:=(rdCons (rdOne fun _ fl st=>if fl then gCStr st else gStr st) (rdCons (rdArr (fun _ fl st=>if fl then gCALen st else gALen st) gTopicPartition) (rdCons rdTagsF rdSt0)))
theorem dTopic:DefM Tryz.prog 84 (tTopic) id:=def_skip Tryz.func84 (by kernel_rfl) (by kernel_rfl) (by kernel_rfl)
def tR:List Ty:=[.int .i32,.int .i8,.arr (.st tTopic),.int .i32,.tags]
def gR:Rd:=(rdCons (rdOne fun _ _=>gNum .i32 4) (rdCons (rdIf (fun v=>decide (v≥2)) (.n 0) (rdOne fun _ _=>gI8)) (rdCons (rdArr (fun _ fl st=>if fl then gCALen st else gALen st) gTopic) (rdCons (rdIf (fun v=>decide (v≥10)) (.n (30000)) (rdOne fun _ _=>gNum .i32 4)) (rdCons rdTagsF rdSt0)))))
theorem dR:DefM Tryz.prog 51 (.int .i16::tR) (fun xs=>((xs.set 1 (.n (-1))).set 4 (.n (30000)))):=def_sets (N:=8) Tryz.func51 (by kernel_rfl) rfl rfl (by decide) rfl (DRun.cons (DRun.one (i:=1) (ty:=.int .i32) (x:=.n (-1)) (by kernel_rfl) (by kernel_rfl) rfl rfl rfl rfl (fun w=>⟨_,rfl,rfl,by decide,by decide⟩) (by decide)) (DRun.one (i:=4) (ty:=.int .i32) (x:=.n (30000)) (by kernel_rfl) (by kernel_rfl) rfl rfl rfl rfl (fun w=>⟨_,rfl,rfl,by decide,by decide⟩) (by decide)))
def fl:Int→Bool:=fun v=>decide (v≥6)
set_option maxRecDepth 20000 in
theorem rf:ReadM Tryz.prog 1 53 tR [.n (-1),.n 0,.nil,.n (30000),.nil] fl gR:=by
  refine root Tryz.func53 (by kernel_rfl) rfl rfl rfl ?_ dR (fun _=>rfl) readerT (by kernel_rfl) (by kernel_rfl) (isL_cons (isL_cons (isL_cons (isL_cons (isL_cons isL_nil))))) (by decide);refine bdy_fl ?_ (by decide);refine Run.cons (m:=11) (o':=2) ?_ ?_ rfl (by decide) (by decide) (isL_cons (isL_cons (isL_cons (isL_cons isL_nil))))
  · skip
    exact (fld_asg (asg_call mInt32 (by decide)) (by kernel_rfl) (by kernel_rfl) rfl (by decide))
  refine Run.cons (m:=12) (o':=3) ?_ ?_ rfl (by decide) (by decide) (isL_cons (isL_cons (isL_cons isL_nil)))
  · skip
    exact (fld_if (fld_asg (asg_call mInt8 (by decide)) (by kernel_rfl) (by kernel_rfl) rfl (by decide)) (fun i=>rfl) (by decide))
  refine Run.cons (m:=13) (o':=4) ?_ ?_ rfl (by decide) (by decide) (isL_cons (isL_cons isL_nil))
  · skip
    refine fld_arr (m':=17) (e0:=89) (bs:=48) okM completeM (asg_flex (u:=9) (asg_call mCompactArrayLen (by decide)) (asg_call mArrayLen (by decide)) rfl (by decide)) ?_ (by kernel_rfl) (by decide) (by kernel_rfl) (by kernel_rfl) (by kernel_rfl) (zeroB_is (z:=[.string ⟨#[]⟩,.slice none 0 0,.map none]) (by kernel_rfl)) rfl rfl (by decide);refine elt_st (m':=19) (et:=89) (z0:=[.s [],.nil,.nil]) (bs:=48) ?_ dTopic ?_ (by kernel_rfl) (by decide)
    · skip
      refine Fld.cons (m:=19) (m':=20) (o':=1) ?_ ?_ rfl (by decide) (by decide) (by decide)
      · skip
        exact (fld_var (fld_asg (asg_uns (asg_flex (u:=9) (asg_call mUnsafeCompactString (by decide)) (asg_call mUnsafeString (by decide)) rfl (by decide)) (asg_flex (u:=9) (asg_call mCompactString (by decide)) (asg_call mString (by decide)) rfl (by decide)) (by decide)) (by kernel_rfl) (by kernel_rfl) rfl (by decide)) (by decide))
      refine Fld.cons (m:=20) (m':=163) (o':=2) ?_ ?_ rfl (by decide) (by decide) (by decide)
      · skip
        refine fld_arr (m':=24) (e0:=135) (bs:=32) okM completeM (asg_flex (u:=9) (asg_call mCompactArrayLen (by decide)) (asg_call mArrayLen (by decide)) rfl (by decide)) ?_ (by kernel_rfl) (by decide) (by kernel_rfl) (by kernel_rfl) (by kernel_rfl) (zeroB_is (z:=[.int .i32 0,.int .i32 0,.int .i64 0,.int .i32 0,.map none]) (by kernel_rfl)) rfl rfl (by decide);refine elt_st (m':=26) (et:=135) (z0:=[.n 0,.n 0,.n 0,.n 0,.nil]) (bs:=32) ?_ dTopicPartition ?_ (by kernel_rfl) (by decide)
        · skip
          refine Fld.cons (m:=26) (m':=27) (o':=1) ?_ ?_ rfl (by decide) (by decide) (by decide)
          · skip
            exact (fld_asg (asg_call mInt32 (by decide)) (by kernel_rfl) (by kernel_rfl) rfl (by decide))
          refine Fld.cons (m:=27) (m':=28) (o':=2) ?_ ?_ rfl (by decide) (by decide) (by decide)
          · skip
            exact (fld_if (fld_asg (asg_call mInt32 (by decide)) (by kernel_rfl) (by kernel_rfl) rfl (by decide)) (fun i=>rfl) (by decide))
          refine Fld.cons (m:=28) (m':=29) (o':=3) ?_ ?_ rfl (by decide) (by decide) (by decide)
          · skip
            exact (fld_asg (asg_call mInt64 (by decide)) (by kernel_rfl) (by kernel_rfl) rfl (by decide))
          refine Fld.cons (m:=29) (m':=153) (o':=4) ?_ ?_ rfl (by decide) (by decide) (by decide)
          · skip
            exact (fld_if2 (fld_asg (asg_call mInt32 (by decide)) (by kernel_rfl) (by kernel_rfl) rfl (by decide)) (by decide))
          refine Fld.one ?_;exact (fld_tags (tf:=9) mTags (fBi (by kernel_rfl)) (by kernel_rfl) rfl (by decide))
        exact fun w=>reps_zero tTopicPartition
      refine Fld.one ?_;exact (fld_tags (tf:=9) mTags (fBi (by kernel_rfl)) (by kernel_rfl) rfl (by decide))
    exact fun w=>reps_zero tTopic
  refine Run.cons (m:=30) (o':=5) ?_ ?_ rfl (by decide) (by decide) (isL_cons isL_nil)
  · skip
    exact (fld_if (fld_asg (asg_call mInt32 (by decide)) (by kernel_rfl) (by kernel_rfl) rfl (by decide)) (fun i=>rfl) (by decide))
  refine Run.cons (m:=180) (o':=6) ?_ ?_ rfl (by decide) (by decide) isL_nil
  · skip
    exact (fld_tags (tf:=9) mTags (fBi (by kernel_rfl)) (by kernel_rfl) rfl (by decide))
  exact run_end completeM (by decide)
def gsTopicPartition:List (V→T):=[tNum,tNum,tNum,tNum]
def tgTopicPartition (x:V):T:=.mk 0 [] false (tellAll gsTopicPartition (x.items.drop 0)) (uOf gsTopicPartition (x.items.drop 0))
theorem cbTopicPartition:CbM Tryz.prog 126:=cb_m (et:=5) (TL:=34) (bs:=32) Tryz.func126 (by kernel_rfl) rfl rfl rfl (by kernel_rfl) treeT (by kernel_rfl) (by kernel_rfl) (by decide) tagF tagT (by kernel_rfl) octT
theorem tlTopicPartition:TellM Tryz.prog 92 (.st (tTopicPartition)) tgTopicPartition:=by
  refine tell_root (pre:=[]) (tys:=tTopicPartition) (st:=3) (m:=4) treeT Tryz.func92 (by kernel_rfl) rfl rfl rfl ?_ rfl rfl (by decide) (by decide);refine TRun.cons (o':=1) (tl_num treeT (by kernel_rfl) (by kernel_rfl) (by kernel_rfl) (by kernel_rfl) (by kernel_rfl) (by decide) (by decide)) ?_ rfl (by decide);refine TRun.cons (o':=2) (tl_num treeT (by kernel_rfl) (by kernel_rfl) (by kernel_rfl) (by kernel_rfl) (by kernel_rfl) (by decide) (by decide)) ?_ rfl (by decide);refine TRun.cons (o':=3) (tl_n64 treeT (by kernel_rfl) (by kernel_rfl) (by kernel_rfl) (by decide)) ?_ rfl (by decide);refine TRun.cons (o':=4) (tl_num treeT (by kernel_rfl) (by kernel_rfl) (by kernel_rfl) (by kernel_rfl) (by kernel_rfl) (by decide) (by decide)) ?_ rfl (by decide);exact TRun.tags treeT eachM cbTopicPartition sortedM (by kernel_rfl) (by kernel_rfl) (by decide)
def gsTopic:List (V→T):=[tStr,fun x=>.mk 0 [] x.isNil (x.items.map tgTopicPartition) []]
def tgTopic (x:V):T:=.mk 0 [] false (tellAll gsTopic (x.items.drop 0)) (uOf gsTopic (x.items.drop 0))
theorem cbTopic:CbM Tryz.prog 93:=cb_m (et:=5) (TL:=34) (bs:=32) Tryz.func93 (by kernel_rfl) rfl rfl rfl (by kernel_rfl) treeT (by kernel_rfl) (by kernel_rfl) (by decide) tagF tagT (by kernel_rfl) octT
theorem tlTopic:TellM Tryz.prog 54 (.st (tTopic)) tgTopic:=by
  refine tell_root (pre:=[]) (tys:=tTopic) (st:=3) (m:=4) treeT Tryz.func54 (by kernel_rfl) rfl rfl rfl ?_ rfl rfl (by decide) (by decide);refine TRun.cons (o':=1) (tl_str treeT (by kernel_rfl) (by kernel_rfl) (by kernel_rfl) (by kernel_rfl) (by kernel_rfl) (by decide)) ?_ rfl (by decide);refine TRun.cons2 (o':=2) (tl_null treeT (by kernel_rfl) (by kernel_rfl) (by kernel_rfl) (by kernel_rfl) (by kernel_rfl) (by decide)) (tl_loop (m2:=35) treeT (app_call1 treeT tlTopicPartition rfl (by kernel_rfl) (by kernel_rfl) (by kernel_rfl) (by kernel_rfl) (by decide)) (app_call2 treeT tlTopicPartition (by kernel_rfl) (by kernel_rfl) (by kernel_rfl) (by kernel_rfl) (by decide)) boolT (by kernel_rfl) (by kernel_rfl) (by kernel_rfl) (by kernel_rfl) (by kernel_rfl) (by decide)) ?_ rfl (by decide);exact TRun.tags treeT eachM cbTopic sortedM (by kernel_rfl) (by kernel_rfl) (by decide)
def gsR:List (V→T):=[tNum,tNum,fun x=>.mk 0 [] x.isNil (x.items.map tgTopic) [],tNum]
def tgR (x:V):T:=.mk 0 [] false (tellAll gsR (x.items.drop 1)) (uOf gsR (x.items.drop 1))
theorem cbR:CbM Tryz.prog 56:=cb_m (et:=5) (TL:=34) (bs:=32) Tryz.func56 (by kernel_rfl) rfl rfl rfl (by kernel_rfl) treeT (by kernel_rfl) (by kernel_rfl) (by decide) tagF tagT (by kernel_rfl) octT
theorem tlR:TellM Tryz.prog 27 (.st (.int .i16::tR)) tgR:=by
  refine tell_root (pre:=[.int .i16]) (tys:=tR) (st:=3) (m:=4) treeT Tryz.func27 (by kernel_rfl) rfl rfl rfl ?_ rfl rfl (by decide) (by decide);refine TRun.cons (o':=2) (tl_num treeT (by kernel_rfl) (by kernel_rfl) (by kernel_rfl) (by kernel_rfl) (by kernel_rfl) (by decide) (by decide)) ?_ rfl (by decide);refine TRun.cons (o':=3) (tl_num treeT (by kernel_rfl) (by kernel_rfl) (by kernel_rfl) (by kernel_rfl) (by kernel_rfl) (by decide) (by decide)) ?_ rfl (by decide);refine TRun.cons2 (o':=4) (tl_null treeT (by kernel_rfl) (by kernel_rfl) (by kernel_rfl) (by kernel_rfl) (by kernel_rfl) (by decide)) (tl_loop (m2:=44) treeT (app_call1 treeT tlTopic rfl (by kernel_rfl) (by kernel_rfl) (by kernel_rfl) (by kernel_rfl) (by decide)) (app_call2 treeT tlTopic (by kernel_rfl) (by kernel_rfl) (by kernel_rfl) (by kernel_rfl) (by decide)) boolT (by kernel_rfl) (by kernel_rfl) (by kernel_rfl) (by kernel_rfl) (by kernel_rfl) (by decide)) ?_ rfl (by decide);refine TRun.cons (o':=5) (tl_num treeT (by kernel_rfl) (by kernel_rfl) (by kernel_rfl) (by kernel_rfl) (by kernel_rfl) (by decide) (by decide)) ?_ rfl (by decide);exact TRun.tags treeT eachM cbR sortedM (by kernel_rfl) (by kernel_rfl) (by decide)
theorem setM:SetM Tryz.prog 25:=set_m Tryz.func25 (by kernel_rfl) rfl rfl rfl (by kernel_rfl) (by kernel_rfl)
theorem newM:NewM Tryz.prog 22 (.int .i16::tR) [.n 0,.n (-1),.n 0,.nil,.n (30000),.nil]:=new_m (d:=(fun xs=>((xs.set 1 (.n (-1))).set 4 (.n (30000))))) Tryz.func22 (by kernel_rfl) rfl rfl rfl (zeroB_is (by kernel_rfl)) dR (by decide)
theorem maxM:MaxM Tryz.prog 7 11:=maxd_m (tys:=.int .i16::tR) (ds:=[.n 0,.n (-1),.n 0,.nil,.n (30000),.nil]) (mx:=((11:Nat):Int)) (fmx:=23) (fnw:=22) (f:=7) (P:=Tryz.prog) Tryz.func7 (by kernel_rfl) rfl rfl rfl newM (maxv_m Tryz.func23 (by kernel_rfl) rfl rfl rfl) (by decide) (by kernel_rfl) (by kernel_rfl)
theorem rd1:ReadD Tryz.prog 1 26 tR [.n (-1),.n 0,.nil,.n (30000),.nil] fl gR:=read_d rf Tryz.func26 (by kernel_rfl) rfl rfl rfl
theorem door:DoorGM Tryz.prog 1 10 (doorRes gR fl tgR):=doorg_m (te:=5) Tryz.func10 (by kernel_rfl) rfl rfl rfl treeT.flat (by kernel_rfl) (zeroB_is (by kernel_rfl)) (by kernel_rfl) (by kernel_rfl) (by kernel_rfl) newM setM rd1 tlR
def small (t:T):Prop:=WellOk t∧∀ ver flex,(partW fsQ ver flex t).length≤2147483648
theorem ptTopicPartition (ver:Int) (h0:0≤ver) (t:T) (hk:WellOk t):InvT gTopicPartition ver (fl ver) (RfN 0) fssQTopicPartition gsTopicPartition t.l 0 (if fl ver then unksW fssQTopicPartition t else []) (bodyL fssQTopicPartition ver (fl ver) t.l 0++if fl ver then uvW (unksW fssQTopicPartition t).length++tagsW (unksW fssQTopicPartition t) else []):=by
  refine invt_cons (by decide) (has_all h0 (by decide) (by decide)) (inqf_i32 (by decide)) ?_;refine invt_gate (p:=fun v=>decide (v≥4)) (by decide) (has_ge (by decide)) (inqf_i32 (by decide)) (by simp[UsB,Fd.kind,Fd.nul,Fd.df,tNum,tText,tStr,tBool,tOcts,numW,T.n,T.s,T.nl,T.l,IntKind.wrap,IntKind.signed,IntKind.bits]) ?_;refine invt_cons (by decide) (has_all h0 (by decide) (by decide)) (inqf_i64 (by decide) (WellOk.at hk.l 2).n) ?_;refine invt_gate (p:=fun v=>decide (v≥0) && decide (v≤0)) (by decide) (has_rng (by decide)) (inqf_i32 (by decide)) (by simp[UsB,Fd.kind,Fd.nul,Fd.df,tNum,tText,tStr,tBool,tOcts,numW,T.n,T.s,T.nl,T.l,IntKind.wrap,IntKind.signed,IntKind.bits]) ?_;exact invt_end hk.keys
theorem poTopicPartition (ver:Int) (h0:0≤ver) (t:T):1≤(partW fssQTopicPartition ver (fl ver) t).length:=part_pos (by kernel_rfl) (body_head (has_all h0 (by decide) (by decide)) (fieldW_pos (by decide)))
theorem ptTopic (ver:Int) (h0:0≤ver) (t:T) (hk:WellOk t):InvT gTopic ver (fl ver) (RfN 1) fssQTopic gsTopic t.l 0 (if fl ver then unksW fssQTopic t else []) (bodyL fssQTopic ver (fl ver) t.l 0++if fl ver then uvW (unksW fssQTopic t).length++tagsW (unksW fssQTopic t) else []):=by
  refine invt_cons (by decide) (has_all h0 (by decide) (by decide)) (inqf_strS (by decide)) ?_;refine invt_cons (by decide) (has_all h0 (by decide) (by decide)) (inqf_arr (by decide) (fun z hz=>inq_el (by kernel_rfl) rfl (ptTopicPartition ver h0 z ((WellOk.at hk.l 1).l z hz))) (fun z=>value_pos10 (poTopicPartition ver h0 z))) ?_;exact invt_end hk.keys
theorem poTopic (ver:Int) (h0:0≤ver) (t:T):1≤(partW fssQTopic ver (fl ver) t).length:=part_pos (by kernel_rfl) (body_head (has_all h0 (by decide) (by decide)) (fieldW_pos (by decide)))
theorem ptR (ver:Int) (h0:0≤ver) (t:T) (hk:WellOk t):InvT gR ver (fl ver) (RfN 2) fsQ gsR t.l 0 (if fl ver then unksW fsQ t else []) (bodyL fsQ ver (fl ver) t.l 0++if fl ver then uvW (unksW fsQ t).length++tagsW (unksW fsQ t) else []):=by
  refine invt_cons (by decide) (has_all h0 (by decide) (by decide)) (inqf_i32 (by decide)) ?_;refine invt_gate (p:=fun v=>decide (v≥2)) (by decide) (has_ge (by decide)) (inqf_i8 (by decide)) (by simp[UsB,Fd.kind,Fd.nul,Fd.df,tNum,tText,tStr,tBool,tOcts,numW,T.n,T.s,T.nl,T.l,IntKind.wrap,IntKind.signed,IntKind.bits]) ?_;refine invt_cons (by decide) (has_all h0 (by decide) (by decide)) (inqf_arr (by decide) (fun z hz=>inq_el (by kernel_rfl) rfl (ptTopic ver h0 z ((WellOk.at hk.l 2).l z hz))) (fun z=>value_pos10 (poTopic ver h0 z))) ?_;refine invt_gate (p:=fun v=>decide (v≥10)) (by decide) (has_ge (by decide)) (inqf_i32 (by decide)) (by simp[UsB,Fd.kind,Fd.nul,Fd.df,tNum,tText,tStr,tBool,tOcts,numW,T.n,T.s,T.nl,T.l,IntKind.wrap,IntKind.signed,IntKind.bits]) ?_;exact invt_end hk.keys
theorem law:LawT Tryz.prog 1 3 small:=by
  refine lawt_m (mx:=11) (fs:=fsQ) (enc:=partW fsQ) Tryz.func3 (by kernel_rfl) rfl rfl rfl (fBi (by kernel_rfl)) (fBi (by kernel_rfl)) (fBi (by kernel_rfl)) (by kernel_rfl) (by kernel_rfl) (by kernel_rfl) wFit maxM (by decide) ifsQ verM (wWrite fsQ (by decide)) door flexM (⟨enters_of Tryz.func14 (by kernel_rfl) rfl,gotM⟩) (toldN 2 fsQ (by kernel_rfl)) ?_;rintro ver h0 h1 t ⟨hk,hs⟩;refine ⟨hs _ _,?_⟩;rw[show (decide ((6:Int)≥0) && decide (ver≥6))=fl ver from by simp[fl]];exact td_plain (flx:=fl) (by kernel_rfl) (fun _=>rfl) (ptR ver h0 t hk)
end Go.Proofs.YtnfcfigefdbkhaaGreatDoor.ListOffsetsRequest
