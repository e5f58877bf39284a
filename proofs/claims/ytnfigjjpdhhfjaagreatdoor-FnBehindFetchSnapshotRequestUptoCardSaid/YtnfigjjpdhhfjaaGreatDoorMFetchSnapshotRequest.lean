/- The parts of the law on FetchSnapshotRequest. Printed by gen_msg.py. -/
import Derived.Test.YtnfigjjpdhhfjaaGreatDoorPFetchSnapshotRequest
import Derived.Test.YtnfigjjpdhhfjaaGreatDoorCFetchSnapshotRequest
import Derived.Test.YtnfigjjpdhhfjaaGreatDoorKqSwu
import Derived.Test.YtnfigjjpdhhfjaaGreatDoorKqP06
import Derived.Test.YtnfigjjpdhhfjaaGreatDoorKqP07
set_option linter.unusedVariables false
set_option linter.unusedSimpArgs false
namespace Go.Proofs.YtnfigjjpdhhfjaaGreatDoor.FetchSnapshotRequest
open Go.Kq
def tTopicPartitionSnapshotID:List Ty:=[.int .i64,.int .i32,.tags]
def gTopicPartitionSnapshotID:Rd:=(Z03 (Z05 fun _ _=>gNum .i64 8) (Z03 (Z05 fun _ _=>gNum .i32 4) (Z03 Z1k Z6Y)))
theorem dTopicPartitionSnapshotID:DefM Tryz.prog 124 (tTopicPartitionSnapshotID) id:=Z6B Tryz.func124 (by kernel_rfl) (by kernel_rfl) (by kernel_rfl)
def tTopicPartition:List Ty:=[.int .i32,.int .i32,.st tTopicPartitionSnapshotID,.int .i64,.uuid,.tags]
def gTopicPartition:Rd:=(Z03 (Z05 fun _ _=>gNum .i32 4) (Z03 (Z05 fun _ _=>gNum .i32 4) (Z03 gTopicPartitionSnapshotID (Z03 (Z05 fun _ _=>gNum .i64 8) (rdKn (Z05 fun _ _=>Z3z) (.s Z2j))))))
theorem dTopicPartition:DefM Tryz.prog 123 (tTopicPartition) id:=def_look (o:=2) Tryz.func123 (by kernel_rfl) rfl rfl rfl (by kernel_rfl)
def tTopic:List Ty:=[.str,.arr (.st tTopicPartition),.tags]
def gTopic:Rd:=(Z03 (Z05 fun _ fl st=>if fl then Z4f st else gStr st) (Z03 (Z4d (fun _ fl st=>if fl then Z32 st else Z76 st) gTopicPartition) (Z03 Z1k Z6Y)))
theorem dTopic:DefM Tryz.prog 122 (tTopic) id:=Z6B Tryz.func122 (by kernel_rfl) (by kernel_rfl) (by kernel_rfl)
def tR:List Ty:=[.pstr,.int .i32,.int .i32,.arr (.st tTopic),.tags]
def gR:Rd:=(Z1l (Z05 fun _ _=>gNum .i32 4) (Z1l (Z05 fun _ _=>gNum .i32 4) (Z1l (Z4d (fun _ fl st=>if fl then Z32 st else Z76 st) gTopic) (rdKn (Z05 fun _ fl st=>if fl then Z1x st else Z3j st) (.nil)))))
theorem dR:DefM Tryz.prog 76 (.int .i16::tR) (fun xs=>((xs.set 2 (.n (-1))).set 3 (.n (2147483647)))):=def_sets (N:=8) Tryz.func76 (by kernel_rfl) rfl rfl (by decide) rfl (DRun.cons (DRun.one (i:=2) (ty:=.int .i32) (x:=.n (-1)) (by kernel_rfl) (by kernel_rfl) rfl rfl rfl rfl (fun w=>⟨_,rfl,rfl,by decide,by decide⟩) (by decide)) (DRun.one (i:=3) (ty:=.int .i32) (x:=.n (2147483647)) (by kernel_rfl) (by kernel_rfl) rfl rfl rfl rfl (fun w=>⟨_,rfl,rfl,by decide,by decide⟩) (by decide)))
def fl:Int→Bool:=fun v=>decide (v≥0)
set_option maxRecDepth 20000 in
theorem rf:ReadS Tryz.prog 1 78 tR [.nil,.n (-1),.n (2147483647),.nil,.nil] fl gR:=by
  refine rootS Tryz.func78 (by kernel_rfl) rfl rfl rfl ?_ dR (fun _=>rfl) readerT (by kernel_rfl) (by kernel_rfl) (by decide);refine bdyS_fl ?_ (by decide);refine RunZ.s (o:=2) ?_ rfl (Z0A (Z0A (Z0A Z28)));refine RunZ.cons (m:=11) (o':=3) ?_ ?_ rfl (by decide) (by decide) (by decide) (Z0A (Z0A Z28))
  · skip
    refine Fld.y ?_;exact (Z29 (ZS mInt32 (by decide)) (by kernel_rfl) (by kernel_rfl) rfl (by decide))
  refine RunZ.cons (m:=12) (o':=4) ?_ ?_ rfl (by decide) (by decide) (by decide) (Z0A Z28)
  · skip
    refine Fld.y ?_;exact (Z29 (ZS mInt32 (by decide)) (by kernel_rfl) (by kernel_rfl) rfl (by decide))
  refine RunZ.cons (m:=13) (o':=5) ?_ ?_ rfl (by decide) (by decide) (by decide) Z28
  · skip
    refine Z6y (m':=17) (e0:=116) (bs:=48) okM completeM (Z34 (u:=9) (ZS mCompactArrayLen (by decide)) (ZS mArrayLen (by decide)) rfl (by decide)) ?_ (by kernel_rfl) (by decide) (by kernel_rfl) (by kernel_rfl) (by kernel_rfl) (Z19 (z:=[.string ⟨#[]⟩,.slice none 0 0,.map none]) (by kernel_rfl)) rfl rfl (by decide);refine Z8k (m':=19) (et:=116) (z0:=[.s [],.nil,.nil]) (bs:=48) ?_ dTopic ?_ (by kernel_rfl) (by decide)
    · skip
      refine FldY.cons (m:=19) (m':=20) (o':=1) ?_ ?_ rfl (by decide) (by decide) (by decide)
      · skip
        refine Fld.y ?_;exact (fld_var (Z29 (Z68 (Z34 (u:=9) (ZS mUnsafeCompactString (by decide)) (ZS mUnsafeString (by decide)) rfl (by decide)) (Z34 (u:=9) (ZS mCompactString (by decide)) (ZS mString (by decide)) rfl (by decide)) (by decide)) (by kernel_rfl) (by kernel_rfl) rfl (by decide)) (by decide))
      refine FldY.cons (m:=20) (m':=207) (o':=2) ?_ ?_ rfl (by decide) (by decide) (by decide)
      · skip
        refine Z6y (m':=24) (e0:=122) (bs:=64) okM completeM (Z34 (u:=9) (ZS mCompactArrayLen (by decide)) (ZS mArrayLen (by decide)) rfl (by decide)) ?_ (by kernel_rfl) (by decide) (by kernel_rfl) (by kernel_rfl) (by kernel_rfl) (Z19 (z:=[.int .i32 0,.int .i32 0,.int .i64 0,.int .i32 0,.map none,.int .i64 0,.int .u8 0,.int .u8 0,.int .u8 0,.int .u8 0,.int .u8 0,.int .u8 0,.int .u8 0,.int .u8 0,.int .u8 0,.int .u8 0,.int .u8 0,.int .u8 0,.int .u8 0,.int .u8 0,.int .u8 0,.int .u8 0,.map none]) (by kernel_rfl)) rfl rfl (by decide);refine Z8k (m':=26) (et:=122) (z0:=[.n 0,.n 0,.l [.n 0,.n 0,.nil],.n 0,.s Z2j,.nil]) (bs:=64) ?_ dTopicPartition ?_ (by kernel_rfl) (by decide)
        · skip
          refine FldY.cons (m:=26) (m':=27) (o':=1) ?_ ?_ rfl (by decide) (by decide) (by decide)
          · skip
            refine Fld.y ?_;exact (Z29 (ZS mInt32 (by decide)) (by kernel_rfl) (by kernel_rfl) rfl (by decide))
          refine FldY.cons (m:=27) (m':=28) (o':=2) ?_ ?_ rfl (by decide) (by decide) (by decide)
          · skip
            refine Fld.y ?_;exact (Z29 (ZS mInt32 (by decide)) (by kernel_rfl) (by kernel_rfl) rfl (by decide))
          refine FldY.cons (m:=28) (m':=32) (o':=5) ?_ ?_ rfl (by decide) (by decide) (by decide)
          · skip
            refine Fld.y ?_;refine fld_st (m':=30) (z0:=[.n 0,.n 0,.nil]) ?_ dTopicPartitionSnapshotID (by kernel_rfl) (by decide);refine Fld.cons (m:=30) (m':=31) (o':=1) ?_ ?_ rfl (by decide) (by decide) (by decide)
            · skip
              exact (Z29 (ZS mInt64 (by decide)) (by kernel_rfl) (by kernel_rfl) rfl (by decide))
            refine Fld.cons (m:=31) (m':=161) (o':=2) ?_ ?_ rfl (by decide) (by decide) (by decide)
            · skip
              exact (Z29 (ZS mInt32 (by decide)) (by kernel_rfl) (by kernel_rfl) rfl (by decide))
            refine Fld.one ?_;exact (Z6x (tf:=9) mTags (fBi (by kernel_rfl)) (by kernel_rfl) rfl (by decide))
          refine FldY.cons (m:=32) (m':=33) (o':=6) ?_ ?_ rfl (by decide) (by decide) (by decide)
          · skip
            refine Fld.y ?_;exact (Z29 (ZS mInt64 (by decide)) (by kernel_rfl) (by kernel_rfl) rfl (by decide))
          refine FldZ.s (o:=22) ?_ rfl Z28;refine Z8f (m1:=34) (m':=36) (tb':=35) mUvarint spanM setTagM completeM readerT (by kernel_rfl) (by kernel_rfl) (by kernel_rfl) (by decide) (by kernel_rfl) rfl (by kernel_rfl) (by kernel_rfl) (Z8e mUuid uuidT (by kernel_rfl) (by decide)) (by decide)
        exact fun w=>Z1t tTopicPartition
      refine Fld.y (Fld.one ?_);exact (Z6x (tf:=9) mTags (fBi (by kernel_rfl)) (by kernel_rfl) rfl (by decide))
    exact fun w=>Z1t tTopic
  exact RunZ.kn (m:=38) (Z8f (m1:=39) (m':=41) (tb':=40) mUvarint spanM setTagM completeM readerT (by kernel_rfl) (by kernel_rfl) (by kernel_rfl) (by decide) (by kernel_rfl) rfl (by kernel_rfl) (by kernel_rfl) (fld_varT (fld_asgT (Z34 (u:=9) (Z68 (ZS mUnsafeCompactNullableString (by decide)) (ZS mCompactNullableString (by decide)) (by decide)) (Z68 (ZS mUnsafeNullableString (by decide)) (ZS mNullableString (by decide)) (by decide)) rfl (by decide)) (by kernel_rfl) (by kernel_rfl) rfl (by decide)) (by decide)) (by decide)) completeM (by decide)
theorem setM:SetM Tryz.prog 42:=set_m Tryz.func42 (by kernel_rfl) rfl rfl rfl (by kernel_rfl) (by kernel_rfl)
theorem newM:NewM Tryz.prog 39 (.int .i16::tR) [.n 0,.nil,.n (-1),.n (2147483647),.nil,.nil]:=new_m (d:=(fun xs=>((xs.set 2 (.n (-1))).set 3 (.n (2147483647))))) Tryz.func39 (by kernel_rfl) rfl rfl rfl (Z19 (by kernel_rfl)) dR (by decide)
theorem maxM:MaxM Tryz.prog 17 1:=maxd_m (tys:=.int .i16::tR) (ds:=[.n 0,.nil,.n (-1),.n (2147483647),.nil,.nil]) (mx:=((1:Nat):Int)) (fmx:=40) (fnw:=39) (f:=17) (P:=Tryz.prog) Tryz.func17 (by kernel_rfl) rfl rfl rfl newM (maxv_m Tryz.func40 (by kernel_rfl) rfl rfl rfl) (by decide) (by kernel_rfl) (by kernel_rfl)
theorem rd1:Z8A Tryz.prog 1 43 tR [.nil,.n (-1),.n (2147483647),.nil,.nil] fl gR:=read_ds rf Tryz.func43 (by kernel_rfl) rfl rfl rfl
theorem door:BehSM Tryz.prog 1 19 (Z5D gR fl fun ver=>gRt (gaQ ver)):=Z8o (te:=5) Tryz.func19 (by kernel_rfl) rfl rfl rfl (by kernel_rfl) octT (by kernel_rfl) (by kernel_rfl) (by kernel_rfl) newM setM rd1 app
theorem plTopicPartitionSnapshotID (ver:Int) (hv:0≤ver) (t:T) (hk:ZN t):InvL gTopicPartitionSnapshotID ver (decide (ver≥0)) (gaQTopicPartitionSnapshotID ver) (Z07 fssQTopicPartitionSnapshotID ver (decide (ver≥0)) t):=by
  refine inv_part (by kernel_rfl) ?_;refine Z30 (Z15 (Z0M hv (by decide) (by decide)) Z6t) ?_;refine Z30 (Z15 (Z0M hv (by decide) (by decide)) Z2Z) ?_;exact Z6v (Z4u hk)
theorem plTopicPartition (ver:Int) (hv:0≤ver) (t:T) (hk:ZN t):InvG gTopicPartition ver (decide (ver≥0)) (gaQTopicPartition ver) (Z07 fssQTopicPartition ver (decide (ver≥0)) t):=by
  refine Z5y (by decide) ?_;refine Z2Y (by decide) (Z15 (Z0M hv (by decide) (by decide)) Z2Z) ?_;refine Z2Y (by decide) (Z15 (Z0M hv (by decide) (by decide)) Z2Z) ?_;refine Z2Y (by decide) (Z15 (Z0M hv (by decide) (by decide)) (invf_st (by decide) (plTopicPartitionSnapshotID ver hv _ (ZN.at hk.l 2)))) ?_;refine Z2Y (by decide) (Z15 (Z0M hv (by decide) (by decide)) Z6t) ?_;refine invk_end rfl ?_;refine Z4v (a:=Z35) (by decide) hk (fun hfl val h=>?_) rfl (fun hfl=>?_)
  · rw[fssQTopicPartition,Z1c (by decide),Z1c (by decide),Z1c (by decide),Z1c (by decide),Z3C rfl (by kernel_rfl)] at h;exact Z62 h
  rw[fssQTopicPartition,Z1c (by decide),Z1c (by decide),Z1c (by decide),Z1c (by decide),Z3C rfl (by kernel_rfl)];exact kn_uuid
theorem poTopicPartition (ver:Int) (hv:0≤ver) (t:T):1≤(Z07 fssQTopicPartition ver (decide (ver≥0)) t).length:=Z7V (by decide) (Z7h (by decide) (Z0M hv (by decide) (by decide)) (Z4B (by decide)))
theorem plTopic (ver:Int) (hv:0≤ver) (t:T) (hk:ZN t):InvL gTopic ver (decide (ver≥0)) (gaQTopic ver) (Z07 fssQTopic ver (decide (ver≥0)) t):=by
  refine Z89 (by kernel_rfl) ?_;refine Z30 (Z15 (Z0M hv (by decide) (by decide)) (invf_str (by decide))) ?_;refine Z30 (Z15 (Z0M hv (by decide) (by decide)) (Z6u (by decide) (fun z hz=>inv_elG (plTopicPartition ver hv z ((ZN.at hk.l 1).l z hz))) (fun z=>Z3K (poTopicPartition ver hv z)))) ?_;exact Z6v (Z4u hk)
theorem poTopic (ver:Int) (hv:0≤ver) (t:T):1≤(Z07 fssQTopic ver (decide (ver≥0)) t).length:=Z7U (by kernel_rfl) (Z8n (Z0M hv (by decide) (by decide)) (Z4B (by decide)))
theorem plR (ver:Int) (hv:0≤ver) (t:T) (hk:ZN t):InvG gR ver (decide (ver≥0)) (gaQ ver) (Z07 fsQ ver (decide (ver≥0)) t):=by
  refine Z5y (by decide) ?_;refine Z84 rfl ?_;refine Z3e (Z0A (Z0A Z28)) (by decide) (Z15 (Z0M hv (by decide) (by decide)) Z2Z) ?_;refine Z3e (Z0A Z28) (by decide) (Z15 (Z0M hv (by decide) (by decide)) Z2Z) ?_;refine Z3e Z28 (by decide) (Z15 (Z0M hv (by decide) (by decide)) (Z6u (by decide) (fun z hz=>inv_el (plTopic ver hv z ((ZN.at hk.l 3).l z hz))) (fun z=>Z3K (poTopic ver hv z)))) ?_;refine invk_nil ?_;refine Z4v (a:=fun x=>if decide (ver≥0) then Z0E x else Z1f x) (by decide) hk (fun hfl val h=>?_) rfl (fun hfl=>?_)
  · rw[fsQ,Z3C rfl (by kernel_rfl)] at h;exact Z63 (by decide) h
  rw[fsQ,Z3C rfl (by kernel_rfl)];exact kn_pstr (by decide) hfl
def small (t:T):Prop:=ZN t∧∀ ver flex,(Z07 fsQ ver flex t).length≤2147483648
theorem law:LawB Tryz.prog 1 5 small:=by
  refine lawbs_m (te:=5) (mx:=1) (fs:=fsQ) (enc:=Z07 fsQ) Tryz.func5 (by kernel_rfl) rfl rfl rfl (by kernel_rfl) octT (by kernel_rfl) (fBi (by kernel_rfl)) (fBi (by kernel_rfl)) wFit maxM (by decide) ifsQ verM (wWriteU fsQ (by decide)) door sameM ?_;rintro ver h0 h1 t ⟨hk,hs⟩;refine ⟨hs _ _,?_⟩;rw[show (decide ((0:Int)≥0) && decide (ver≥0))=fl ver from by simp[fl]];exact Z7i (plR ver h0 t hk)
end Go.Proofs.YtnfigjjpdhhfjaaGreatDoor.FetchSnapshotRequest
