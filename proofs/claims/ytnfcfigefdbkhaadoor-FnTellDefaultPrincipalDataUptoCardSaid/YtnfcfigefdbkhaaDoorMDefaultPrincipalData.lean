/- The parts of the law on DefaultPrincipalData. Printed by gen_msg.py. -/
import Derived.Test.YtnfcfigefdbkhaaDoorCDefaultPrincipalData
import Derived.Test.YtnfcfigefdbkhaaDoorKqCoU
import Derived.Test.YtnfcfigefdbkhaaDoorKqP06
set_option linter.unusedVariables false
set_option linter.unusedSimpArgs false
namespace Go.Proofs.YtnfcfigefdbkhaaDoor.DefaultPrincipalData
open Go.Kq
def tR:List Ty:=[.str,.str,.bool,.tags]
def gR:Rd:=(rdCons (rdOne fun _ fl st=>if fl then gCStr st else gStr st) (rdCons (rdOne fun _ fl st=>if fl then gCStr st else gStr st) (rdCons (rdOne fun _ _=>gBool) (rdCons rdTagsF rdSt0))))
theorem dR:DefM Tryd.prog 37 (.int .i16::tR) id:=def_skip Tryd.func37 (by kernel_rfl) (by kernel_rfl) (by kernel_rfl)
def fl:Int→Bool:=fun v=>decide (v≥0)
set_option maxRecDepth 20000 in
theorem rf:ReadK Tryd.prog 1 38 tR [.s [],.s [],.n 0,.nil] fl gR:=by
  refine root_k Tryd.func38 (by kernel_rfl) rfl rfl rfl ?_ dR (fun _=>rfl) readerT (by kernel_rfl) (by kernel_rfl) mInt16 (by kernel_rfl) (isL_cons (isL_cons (isL_cons (isL_cons isL_nil)))) (by decide)
  refine bdy_fl ?_ (by decide)
  refine Run.cons (m:=11) (o':=2) ?_ ?_ rfl (by decide) (by decide) (isL_cons (isL_cons (isL_cons isL_nil)))
  · skip
    exact (fld_var (fld_asg (asg_uns (asg_flex (u:=9) (asg_call mUnsafeCompactString (by decide)) (asg_call mUnsafeString (by decide)) rfl (by decide)) (asg_flex (u:=9) (asg_call mCompactString (by decide)) (asg_call mString (by decide)) rfl (by decide)) (by decide)) (by kernel_rfl) (by kernel_rfl) rfl (by decide)) (by decide))
  refine Run.cons (m:=12) (o':=3) ?_ ?_ rfl (by decide) (by decide) (isL_cons (isL_cons isL_nil))
  · skip
    exact (fld_var (fld_asg (asg_uns (asg_flex (u:=9) (asg_call mUnsafeCompactString (by decide)) (asg_call mUnsafeString (by decide)) rfl (by decide)) (asg_flex (u:=9) (asg_call mCompactString (by decide)) (asg_call mString (by decide)) rfl (by decide)) (by decide)) (by kernel_rfl) (by kernel_rfl) rfl (by decide)) (by decide))
  refine Run.cons (m:=13) (o':=4) ?_ ?_ rfl (by decide) (by decide) (isL_cons isL_nil)
  · skip
    exact (fld_asg (asg_call mBool (by decide)) (by kernel_rfl) (by kernel_rfl) rfl (by decide))
  refine Run.cons (m:=58) (o':=5) ?_ ?_ rfl (by decide) (by decide) isL_nil
  · skip
    exact (fld_tags (tf:=9) mTags (fBi (by kernel_rfl)) (by kernel_rfl) rfl (by decide))
  exact run_end completeM (by decide)
def gsR:List (V→T):=[tStr,tStr,tBool]
def tgR (x:V):T:=.mk 0 [] false (tellAll gsR (x.items.drop 1)) (uOf gsR (x.items.drop 1))
theorem cbR:CbM Tryd.prog 41:=cb_m (et:=5) (TL:=32) (bs:=32) Tryd.func41 (by kernel_rfl) rfl rfl rfl (by kernel_rfl) treeT (by kernel_rfl) (by kernel_rfl) (by decide) tagF tagT (by kernel_rfl) octT
theorem tlR:TellM Tryd.prog 19 (.st (.int .i16::tR)) tgR:=by
  refine tell_root (pre:=[.int .i16]) (tys:=tR) (st:=3) (m:=4) treeT Tryd.func19 (by kernel_rfl) rfl rfl rfl ?_ rfl rfl (by decide) (by decide)
  refine TRun.cons (o':=2) (tl_str treeT (by kernel_rfl) (by kernel_rfl) (by kernel_rfl) (by kernel_rfl) (by kernel_rfl) (by decide)) ?_ rfl (by decide)
  refine TRun.cons (o':=3) (tl_str treeT (by kernel_rfl) (by kernel_rfl) (by kernel_rfl) (by kernel_rfl) (by kernel_rfl) (by decide)) ?_ rfl (by decide)
  refine TRun.cons (o':=4) (tl_fn treeT boolM (by kernel_rfl) (by kernel_rfl) (by kernel_rfl) rfl (by decide)) ?_ rfl (by decide)
  exact TRun.tags treeT eachM cbR sortedM (by kernel_rfl) (by kernel_rfl) (by decide)
theorem newV:NewVM Tryd.prog 17 (.int .i16::tR) [.n 0,.s [],.s [],.n 0,.nil]:=new_v (zs:=[.int .i16 0,.string ⟨#[]⟩,.string ⟨#[]⟩,.bool false,.map none]) Tryd.func17 (by kernel_rfl) rfl rfl rfl (fBi (by kernel_rfl)) (fun w=>reps_zero (.int .i16::tR)) (fun w cs ys h=>reps_ones (by decide) h) dR
theorem rd1:ReadDK Tryd.prog 1 18 tR [.s [],.s [],.n 0,.nil] fl gR:=read_dk rf Tryd.func18 (by kernel_rfl) rfl rfl rfl
theorem door:DoorK Tryd.prog 1 7 (doorResK gR fl tgR):=door_k (te:=5) (zs:=[.int .i16 0,.string ⟨#[]⟩,.string ⟨#[]⟩,.bool false,.map none]) Tryd.func7 (by kernel_rfl) rfl rfl rfl treeT.flat (fBi (by kernel_rfl)) rfl (by kernel_rfl) (zeroB_is (by kernel_rfl)) (by kernel_rfl) (by kernel_rfl) (by kernel_rfl) (by kernel_rfl) (by kernel_rfl) (fun w cs ys h=>reps_ones (by decide) h) newV rd1 tlR
def small (t:T):Prop:=KeysOk t∧∀ ver flex,(partW fsQ ver flex t).length≤2147483648
theorem ptR (ver:Int) (h0:0≤ver) (t:T) (hk:KeysOk t):InvT gR ver (fl ver) (RfN 0) fsQ gsR t.l 0 (if fl ver then unksW fsQ t else []) (bodyL fsQ ver (fl ver) t.l 0++if fl ver then uvW (unksW fsQ t).length++tagsW (unksW fsQ t) else []):=by
  refine invt_cons (by decide) (has_all h0 (by decide) (by decide)) (inqf_strS (by decide)) ?_
  refine invt_cons (by decide) (has_all h0 (by decide) (by decide)) (inqf_strS (by decide)) ?_
  refine invt_cons (by decide) (has_all h0 (by decide) (by decide)) (inqf_bool (by decide)) ?_
  exact invt_end hk
theorem law:LawT Tryd.prog 1 3 small:=by
  refine lawtk_m (fx:=0) (fs:=fsQ) (enc:=partW fsQ) Tryd.func3 (by kernel_rfl) rfl rfl rfl (fBi (by kernel_rfl)) (by kernel_rfl) (by kernel_rfl) (fBi (by kernel_rfl)) (fBi (by kernel_rfl)) (by kernel_rfl) (by kernel_rfl) (by kernel_rfl) (by kernel_rfl) wFit ifsQ (keptA fsQ (by decide)) door flexM (⟨enters_of Tryd.func11 (by kernel_rfl) rfl,gotM⟩) (toldN 0 fsQ (by kernel_rfl)) ?_
  rintro t ⟨hk,hs⟩
  refine ⟨hs _ _,?_⟩
  rw[show (decide ((0:Int)≥0) && decide ((0:Int)≥0))=fl 0 from by simp[fl]]
  exact tdk_plain (flx:=fl) (by kernel_rfl) (fun _=>rfl) (ptR 0 (by decide) t hk)
end Go.Proofs.YtnfcfigefdbkhaaDoor.DefaultPrincipalData
