/- The parts of the law on CreateTopicsResponse. Printed by gen_msg.py. -/
import Derived.Test.YtnfigjjpdhhfjaaGreatDoorPCreateTopicsResponse
import Derived.Test.YtnfigjjpdhhfjaaGreatDoorCCreateTopicsResponse
import Derived.Test.YtnfigjjpdhhfjaaGreatDoorKqSwx
import Derived.Test.YtnfigjjpdhhfjaaGreatDoorKqP07
import Derived.Test.YtnfigjjpdhhfjaaGreatDoorKqP06
set_option linter.unusedVariables false
set_option linter.unusedSimpArgs false
namespace Go.Proofs.YtnfigjjpdhhfjaaGreatDoor.CreateTopicsResponse
open Go.Kq
def tTopicConfig:List Ty:=[.str,.pstr,.bool,.int .i8,.bool,.tags]
def gTopicConfig:Rd:=(ZM (ZT fun _ fl st=>if fl then Z4c st else gStr st) (ZM (ZT fun _ fl st=>if fl then Z1B st else Z3m st) (ZM (ZT fun _ _=>Z3I) (ZM (ZT fun _ _=>gI8) (ZM (ZT fun _ _=>Z3I) (ZM Z1p Z4n))))))
theorem dTopicConfig:DefM Tryz.prog 133 (tTopicConfig) (fun xs=>(xs.set 3 (.n (-1)))):=Z6X (N:=5) Tryz.func133 (by kernel_rfl) rfl rfl (by decide) rfl (DRun.one (i:=3) (ty:=.int .i8) (x:=.n (-1)) (by kernel_rfl) (by kernel_rfl) rfl rfl rfl rfl (fun w=>⟨_,rfl,rfl,by decide,by decide⟩) (by decide))
def tTopic:List Ty:=[.str,.uuid,.int .i16,.pstr,.int .i16,.int .i32,.int .i16,.arr (.st tTopicConfig),.tags]
def gTopic:Rd:=(ZM (ZT fun _ fl st=>if fl then Z4c st else gStr st) (ZM (rdIf (fun v=>decide (v≥7)) (.s Z2m) (ZT fun _ _=>Z4a)) (ZM (ZT fun _ _=>gNum .i16 2) (ZM (rdIf (fun v=>decide (v≥1)) (.nil) (ZT fun _ fl st=>if fl then Z1B st else Z3m st)) (Z1q (rdIf (fun v=>decide (v≥5)) (.n (-1)) (ZT fun _ _=>gNum .i32 4)) (Z1q (rdIf (fun v=>decide (v≥5)) (.n (-1)) (ZT fun _ _=>gNum .i16 2)) (Z1q (rdIf (fun v=>decide (v≥5)) (.nil) (Z1e (0) (fun _ fl st=>if fl then Z0V st else Z3n st) gTopicConfig)) (rdKn (ZT fun _ _=>gNum .i16 2) (.n 0)))))))))
theorem dTopic:DefM Tryz.prog 132 (tTopic) (fun xs=>((xs.set 5 (.n (-1))).set 6 (.n (-1)))):=Z6X (N:=8) Tryz.func132 (by kernel_rfl) rfl rfl (by decide) rfl (DRun.cons (DRun.one (i:=5) (ty:=.int .i32) (x:=.n (-1)) (by kernel_rfl) (by kernel_rfl) rfl rfl rfl rfl (fun w=>⟨_,rfl,rfl,by decide,by decide⟩) (by decide)) (DRun.one (i:=6) (ty:=.int .i16) (x:=.n (-1)) (by kernel_rfl) (by kernel_rfl) rfl rfl rfl rfl (fun w=>⟨_,rfl,rfl,by decide,by decide⟩) (by decide)))
def tR:List Ty:=[.int .i32,.arr (.st tTopic),.tags]
def gR:Rd:=(ZM (rdIf (fun v=>decide (v≥2)) (.n 0) (ZT fun _ _=>gNum .i32 4)) (ZM (Z4W (fun _ fl st=>if fl then Z0V st else Z3n st) gTopic) (ZM Z1p Z4n)))
theorem dR:DefM Tryz.prog 83 (.int .i16::tR) id:=def_skip Tryz.func83 (by kernel_rfl) (by kernel_rfl) (by kernel_rfl)
def fl:Int→Bool:=fun v=>decide (v≥5)
set_option maxRecDepth 20000 in
theorem rf:ReadS Tryz.prog 1 85 tR [.n 0,.nil,.nil] fl gR:=by
  refine rootS Tryz.func85 (by kernel_rfl) rfl rfl rfl ?_ dR (fun _=>rfl) readerT (by kernel_rfl) (by kernel_rfl) (by decide);refine bdyS_fl ?_ (by decide);refine RunS.consY (m:=11) (o':=2) ?_ ?_ rfl (by decide) (by decide) (Z52 (Z52 Z6n))
  · skip
    refine Fld.y ?_;exact (Z4J (Z19 (Zx mInt32 (by decide)) (by kernel_rfl) (by kernel_rfl) rfl (by decide)) (fun i=>rfl) (by decide))
  refine RunS.consY (m:=12) (o':=3) ?_ ?_ rfl (by decide) (by decide) (Z52 Z6n)
  · skip
    refine fld_arrY (m':=16) (e0:=133) (bs:=96) okM completeM (Z1j (u:=9) (Zx mCompactArrayLen (by decide)) (Zx mArrayLen (by decide)) rfl (by decide)) ?_ (by kernel_rfl) (by decide) (by kernel_rfl) (by kernel_rfl) (by kernel_rfl) (Z1C (z:=[.string ⟨#[]⟩,.int .u8 0,.int .u8 0,.int .u8 0,.int .u8 0,.int .u8 0,.int .u8 0,.int .u8 0,.int .u8 0,.int .u8 0,.int .u8 0,.int .u8 0,.int .u8 0,.int .u8 0,.int .u8 0,.int .u8 0,.int .u8 0,.int .i16 0,.pointer none,.int .i16 0,.int .i32 0,.int .i16 0,.slice none 0 0,.map none]) (by kernel_rfl)) rfl rfl (by decide);refine elt_stY (m':=18) (et:=133) (z0:=[.s [],.s Z2m,.n 0,.nil,.n 0,.n 0,.n 0,.nil,.nil]) (bs:=96) ?_ dTopic ?_ (by kernel_rfl) (by decide)
    · skip
      refine FldY.cons (m:=18) (m':=19) (o':=1) ?_ ?_ rfl (by decide) (by decide) (by decide)
      · skip
        refine Fld.y ?_;exact (Z54 (Z19 (Z3t (Z1j (u:=9) (Zx mUnsafeCompactString (by decide)) (Zx mUnsafeString (by decide)) rfl (by decide)) (Z1j (u:=9) (Zx mCompactString (by decide)) (Zx mString (by decide)) rfl (by decide)) (by decide)) (by kernel_rfl) (by kernel_rfl) rfl (by decide)) (by decide))
      refine FldY.cons (m:=19) (m':=20) (o':=17) ?_ ?_ rfl (by decide) (by decide) (by decide)
      · skip
        refine Fld.y ?_;exact (Z4J (fld_uuid mUuid uuidT (by kernel_rfl) (by decide)) (fun i=>rfl) (by decide))
      refine FldY.cons (m:=20) (m':=21) (o':=18) ?_ ?_ rfl (by decide) (by decide) (by decide)
      · skip
        refine Fld.y ?_;exact (Z19 (Zx mInt16 (by decide)) (by kernel_rfl) (by kernel_rfl) rfl (by decide))
      refine FldY.cons (m:=21) (m':=22) (o':=19) ?_ ?_ rfl (by decide) (by decide) (by decide)
      · skip
        refine Fld.y ?_;exact (Z4J (Z54 (Z19 (Z1j (u:=9) (Z3t (Zx mUnsafeCompactNullableString (by decide)) (Zx mCompactNullableString (by decide)) (by decide)) (Z3t (Zx mUnsafeNullableString (by decide)) (Zx mNullableString (by decide)) (by decide)) rfl (by decide)) (by kernel_rfl) (by kernel_rfl) rfl (by decide)) (by decide)) (fun i=>rfl) (by decide))
      refine FldZ.s (o:=20) ?_ rfl (Z0E (Z0E (Z0E Z2I)));refine FldZ.cons (m:=22) (m':=23) (o':=21) ?_ ?_ rfl (by decide) (by decide) (by decide) (by decide) (Z0E (Z0E Z2I))
      · skip
        refine Fld.y ?_;exact (Z4J (Z19 (Zx mInt32 (by decide)) (by kernel_rfl) (by kernel_rfl) rfl (by decide)) (fun i=>rfl) (by decide))
      refine FldZ.cons (m:=23) (m':=24) (o':=22) ?_ ?_ rfl (by decide) (by decide) (by decide) (by decide) (Z0E Z2I)
      · skip
        refine Fld.y ?_;exact (Z4J (Z19 (Zx mInt16 (by decide)) (by kernel_rfl) (by kernel_rfl) rfl (by decide)) (fun i=>rfl) (by decide))
      refine FldZ.cons (m:=24) (m':=35) (o':=23) ?_ ?_ rfl (by decide) (by decide) (by decide) (by decide) Z2I
      · skip
        refine Fld.y ?_;refine Z4J ?_ (fun i=>rfl) (by decide);refine fld_arrN (m':=28) (e0:=138) (bs:=40) okM completeM (Z1j (u:=9) (Zx mCompactArrayLen (by decide)) (Zx mArrayLen (by decide)) rfl (by decide)) ?_ (by kernel_rfl) (by decide) (by kernel_rfl) (by kernel_rfl) (by kernel_rfl) (Z1C (z:=[.string ⟨#[]⟩,.pointer none,.bool false,.int .i8 0,.bool false,.map none]) (by kernel_rfl)) rfl rfl (by decide) (by decide);refine elt_st (m':=30) (et:=138) (z0:=[.s [],.nil,.n 0,.n 0,.n 0,.nil]) (bs:=40) ?_ dTopicConfig ?_ (by kernel_rfl) (by decide)
        · skip
          refine Fld.cons (m:=30) (m':=31) (o':=1) ?_ ?_ rfl (by decide) (by decide) (by decide)
          · skip
            exact (Z54 (Z19 (Z3t (Z1j (u:=9) (Zx mUnsafeCompactString (by decide)) (Zx mUnsafeString (by decide)) rfl (by decide)) (Z1j (u:=9) (Zx mCompactString (by decide)) (Zx mString (by decide)) rfl (by decide)) (by decide)) (by kernel_rfl) (by kernel_rfl) rfl (by decide)) (by decide))
          refine Fld.cons (m:=31) (m':=32) (o':=2) ?_ ?_ rfl (by decide) (by decide) (by decide)
          · skip
            exact (Z54 (Z19 (Z1j (u:=9) (Z3t (Zx mUnsafeCompactNullableString (by decide)) (Zx mCompactNullableString (by decide)) (by decide)) (Z3t (Zx mUnsafeNullableString (by decide)) (Zx mNullableString (by decide)) (by decide)) rfl (by decide)) (by kernel_rfl) (by kernel_rfl) rfl (by decide)) (by decide))
          refine Fld.cons (m:=32) (m':=33) (o':=3) ?_ ?_ rfl (by decide) (by decide) (by decide)
          · skip
            exact (Z19 (Zx mBool (by decide)) (by kernel_rfl) (by kernel_rfl) rfl (by decide))
          refine Fld.cons (m:=33) (m':=34) (o':=4) ?_ ?_ rfl (by decide) (by decide) (by decide)
          · skip
            exact (Z19 (Zx mInt8 (by decide)) (by kernel_rfl) (by kernel_rfl) rfl (by decide))
          refine Fld.cons (m:=34) (m':=214) (o':=5) ?_ ?_ rfl (by decide) (by decide) (by decide)
          · skip
            exact (Z19 (Zx mBool (by decide)) (by kernel_rfl) (by kernel_rfl) rfl (by decide))
          refine Fld.one ?_;exact (Z6U (tf:=9) mTags (fBi (by kernel_rfl)) (by kernel_rfl) rfl (by decide))
        exact fun w=>Z1z tTopicConfig
      refine fld_knZ (m1:=36) (m':=38) (tb':=37) mUvarint spanM setTagM completeM readerT (by kernel_rfl) (by kernel_rfl) (by kernel_rfl) (by decide) (by kernel_rfl) rfl (by kernel_rfl) (by kernel_rfl) (fld_asgT (Zx mInt16 (by decide)) (by kernel_rfl) (by kernel_rfl) rfl (by decide)) (by decide)
    exact fun w=>Z1z tTopic
  refine RunS.consY (m:=260) (o':=4) ?_ ?_ rfl (by decide) (by decide) Z6n
  · skip
    refine Fld.y ?_;exact (Z6U (tf:=9) mTags (fBi (by kernel_rfl)) (by kernel_rfl) rfl (by decide))
  exact runS_end completeM (by decide)
theorem setM:SetM Tryz.prog 48:=set_m Tryz.func48 (by kernel_rfl) rfl rfl rfl (by kernel_rfl) (by kernel_rfl)
theorem newM:NewM Tryz.prog 45 (.int .i16::tR) [.n 0,.n 0,.nil,.nil]:=new_m (d:=id) Tryz.func45 (by kernel_rfl) rfl rfl rfl (Z1C (by kernel_rfl)) dR (by decide)
theorem maxM:MaxM Tryz.prog 20 7:=maxd_m (tys:=.int .i16::tR) (ds:=[.n 0,.n 0,.nil,.nil]) (mx:=((7:Nat):Int)) (fmx:=46) (fnw:=45) (f:=20) (P:=Tryz.prog) Tryz.func20 (by kernel_rfl) rfl rfl rfl newM (maxv_m Tryz.func46 (by kernel_rfl) rfl rfl rfl) (by decide) (by kernel_rfl) (by kernel_rfl)
theorem rd1:Z8R Tryz.prog 1 49 tR [.n 0,.nil,.nil] fl gR:=read_ds rf Tryz.func49 (by kernel_rfl) rfl rfl rfl
theorem door:BehSM Tryz.prog 1 22 (Z5Y gR fl fun ver=>apSt ((fun _=>[])::gaQ ver)):=Z8D (te:=5) Tryz.func22 (by kernel_rfl) rfl rfl rfl (by kernel_rfl) octT (by kernel_rfl) (by kernel_rfl) (by kernel_rfl) newM setM rd1 app
theorem plTopicConfig (ver:Int) (hv:0≤ver) (t:T) (hk:ZR t):InvL gTopicConfig ver (decide (ver≥5)) (gaQTopicConfig ver) (Z07 fssQTopicConfig ver (decide (ver≥5)) t):=by
  refine inv_part (by kernel_rfl) ?_;refine Z18 (Z28 (Z1r hv (by decide) (by decide)) (Z6Q (by decide))) ?_;refine Z18 (Z28 (Z1r hv (by decide) (by decide)) Z5S) ?_;refine Z18 (Z28 (Z1r hv (by decide) (by decide)) Z5T) ?_;refine Z18 (Z28 (Z1r hv (by decide) (by decide)) invf_i8) ?_;refine Z18 (Z28 (Z1r hv (by decide) (by decide)) Z5T) ?_;exact Z6S (Z4D hk)
theorem poTopicConfig (ver:Int) (hv:0≤ver) (t:T):1≤(Z07 fssQTopicConfig ver (decide (ver≥5)) t).length:=part_pos (by kernel_rfl) (Z8C (Z1r hv (by decide) (by decide)) (Z4L (by decide)))
theorem plTopic (ver:Int) (hv:0≤ver) (t:T) (hk:ZR t):InvG gTopic ver (decide (ver≥5)) (gaQTopic ver) (Z07 fssQTopic ver (decide (ver≥5)) t):=by
  refine Z8r (by decide) ?_;refine Z33 (by decide) (Z28 (Z1r hv (by decide) (by decide)) (Z6Q (by decide))) ?_;refine Z33 (by decide) (Z2h (p:=fun v=>decide (v≥7)) (Z4E (by decide)) Z8n) ?_;refine Z33 (by decide) (Z28 (Z1r hv (by decide) (by decide)) Z53) ?_;refine Z33 (by decide) (Z2h (p:=fun v=>decide (v≥1)) (Z4E (by decide)) Z5S) ?_;refine Z8l rfl ?_;refine Z3i (Z0E (Z0E Z2I)) (by decide) (Z2h (p:=fun v=>decide (v≥5)) (Z4E (by decide)) Z6R) ?_;refine Z3i (Z0E Z2I) (by decide) (Z2h (p:=fun v=>decide (v≥5)) (Z4E (by decide)) Z53) ?_;refine Z3i Z2I (by decide) (Z2h (p:=fun v=>decide (v≥5)) (Z4E (by decide)) (Z8o hv (by decide) (fun z hz=>inv_el (plTopicConfig ver hv z ((ZR.at hk.l 7).l z hz))) (fun z=>Z3S (poTopicConfig ver hv z)))) ?_;refine invk_nil ?_;refine Z7n (a:=Z0N 2) (by decide) hk (fun hfl val h=>?_) rfl (fun hfl=>?_)
  · rw[fssQTopic,Z1g (by decide),Z1g (by decide),Z1g (by decide),Z1g (by decide),Z6O rfl (by kernel_rfl)] at h;exact Z7l h
  rw[fssQTopic,Z1g (by decide),Z1g (by decide),Z1g (by decide),Z1g (by decide),Z6O rfl (by kernel_rfl)];exact kn_i16
theorem poTopic (ver:Int) (hv:0≤ver) (t:T):1≤(Z07 fssQTopic ver (decide (ver≥5)) t).length:=Z8c (by decide) (Z7y (by decide) (Z1r hv (by decide) (by decide)) (Z4L (by decide)))
theorem plR (ver:Int) (hv:0≤ver) (t:T) (hk:ZR t):InvL gR ver (decide (ver≥5)) (gaQ ver) (Z07 fsQ ver (decide (ver≥5)) t):=by
  refine Z8q (by kernel_rfl) ?_;refine Z18 (Z2h (p:=fun v=>decide (v≥2)) (Z4E (by decide)) Z6R) ?_;refine Z18 (Z28 (Z1r hv (by decide) (by decide)) (invf_arr (by decide) (fun z hz=>inv_elG (plTopic ver hv z ((ZR.at hk.l 1).l z hz))) (fun z=>Z3S (poTopic ver hv z)))) ?_;exact Z6S (Z4D hk)
def small (t:T):Prop:=ZR t∧∀ ver flex,(Z07 fsQ ver flex t).length≤2147483648
theorem law:LawB Tryz.prog 1 6 small:=by
  refine lawbs_m (te:=5) (mx:=7) (fs:=fsQ) (enc:=Z07 fsQ) Tryz.func6 (by kernel_rfl) rfl rfl rfl (by kernel_rfl) octT (by kernel_rfl) (fBi (by kernel_rfl)) (fBi (by kernel_rfl)) wFit maxM (by decide) ifsQ verM (wWriteK fsQ (by decide)) door sameM ?_;rintro ver h0 h1 t ⟨hk,hs⟩;refine ⟨hs _ _,?_⟩;rw[show (decide ((5:Int)≥0) && decide (ver≥5))=fl ver from by simp[fl]];exact Z8E (plR ver h0 t hk)
end Go.Proofs.YtnfigjjpdhhfjaaGreatDoor.CreateTopicsResponse
