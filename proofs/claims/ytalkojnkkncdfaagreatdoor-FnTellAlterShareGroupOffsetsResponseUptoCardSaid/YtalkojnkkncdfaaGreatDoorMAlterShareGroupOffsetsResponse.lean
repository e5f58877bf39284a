/- The parts of the law on AlterShareGroupOffsetsResponse. Printed by gen_msg.py. -/
import Derived.Test.YtalkojnkkncdfaaGreatDoorCAlterShareGroupOffsetsResponse
import Derived.Test.YtalkojnkkncdfaaGreatDoorKqCoT
set_option linter.unusedVariables false
set_option linter.unusedSimpArgs false
namespace Go.Proofs.YtalkojnkkncdfaaGreatDoor.AlterShareGroupOffsetsResponse
open Go.Kq
def tTopicPartition : List Ty := [.int .i32, .int .i16, .pstr, .tags]
def gTopicPartition : Rd := (rdCons (rdOne fun _ _ => gNum .i32 4) (rdCons (rdOne fun _ _ => gNum .i16 2) (rdCons (rdOne fun _ fl st => if fl then gCNStr st else gNStr st) (rdCons rdTagsF rdSt0))))
theorem dTopicPartition : DefM Tryz.prog 116 (tTopicPartition) id := def_skip Tryz.func116 (by kernel_rfl) (by kernel_rfl) (by kernel_rfl)
def tTopic : List Ty := [.str, .uuid, .arr (.st tTopicPartition), .tags]
def gTopic : Rd := (rdCons (rdOne fun _ fl st => if fl then gCStr st else gStr st) (rdCons (rdOne fun _ _ => gUuid) (rdCons (rdArr (fun _ fl st => if fl then gCALen st else gALen st) gTopicPartition) (rdCons rdTagsF rdSt0))))
theorem dTopic : DefM Tryz.prog 111 (tTopic) id := def_skip Tryz.func111 (by kernel_rfl) (by kernel_rfl) (by kernel_rfl)
def tR : List Ty := [.int .i32, .int .i16, .pstr, .arr (.st tTopic), .tags]
def gR : Rd := (rdCons (rdOne fun _ _ => gNum .i32 4) (rdCons (rdOne fun _ _ => gNum .i16 2) (rdCons (rdOne fun _ fl st => if fl then gCNStr st else gNStr st) (rdCons (rdArr (fun _ fl st => if fl then gCALen st else gALen st) gTopic) (rdCons rdTagsF rdSt0)))))
theorem dR : DefM Tryz.prog 75 (.int .i16 :: tR) id := def_skip Tryz.func75 (by kernel_rfl) (by kernel_rfl) (by kernel_rfl)
def fl : Int → Bool := fun v => decide (v ≥ 0)
set_option maxRecDepth 20000 in
theorem rf : ReadM Tryz.prog 0 77 tR [.n 0, .n 0, .nil, .nil, .nil] fl gR := by
  refine root Tryz.func77 (by kernel_rfl) rfl rfl rfl ?_ dR (fun _ => rfl) readerT (by kernel_rfl) (by kernel_rfl) (isL_cons (isL_cons (isL_cons (isL_cons (isL_cons isL_nil))))) (by decide);refine bdy_fl ?_ (by decide);refine Run.cons (m := 11) (o' := 2) ?_ ?_ rfl (by decide) (by decide) (isL_cons (isL_cons (isL_cons (isL_cons isL_nil))))
  · skip
    exact (fld_asg (asg_call mInt32 (by decide)) (by kernel_rfl) (by kernel_rfl) rfl (by decide))
  refine Run.cons (m := 12) (o' := 3) ?_ ?_ rfl (by decide) (by decide) (isL_cons (isL_cons (isL_cons isL_nil)))
  · skip
    exact (fld_asg (asg_call mInt16 (by decide)) (by kernel_rfl) (by kernel_rfl) rfl (by decide))
  refine Run.cons (m := 13) (o' := 4) ?_ ?_ rfl (by decide) (by decide) (isL_cons (isL_cons isL_nil))
  · skip
    exact (fld_var (fld_asg (asg_flex (u := 9) (asg_uns (asg_call mUnsafeCompactNullableString (by decide)) (asg_call mCompactNullableString (by decide)) (by decide)) (asg_uns (asg_call mUnsafeNullableString (by decide)) (asg_call mNullableString (by decide)) (by decide)) rfl (by decide)) (by kernel_rfl) (by kernel_rfl) rfl (by decide)) (by decide))
  refine Run.cons (m := 14) (o' := 5) ?_ ?_ rfl (by decide) (by decide) (isL_cons isL_nil)
  · skip
    refine fld_arr (m' := 18) (e0 := 114) (bs := 64) okM completeM (asg_flex (u := 9) (asg_call mCompactArrayLen (by decide)) (asg_call mArrayLen (by decide)) rfl (by decide)) ?_ (by kernel_rfl) (by decide) (by kernel_rfl) (by kernel_rfl) (by kernel_rfl) (zeroB_is (z := [.string ⟨#[]⟩, .int .u8 0, .int .u8 0, .int .u8 0, .int .u8 0, .int .u8 0, .int .u8 0, .int .u8 0, .int .u8 0, .int .u8 0, .int .u8 0, .int .u8 0, .int .u8 0, .int .u8 0, .int .u8 0, .int .u8 0, .int .u8 0, .slice none 0 0, .map none]) (by kernel_rfl)) rfl rfl (by decide);refine elt_st (m' := 20) (et := 114) (z0 := [.s [], .s uuid0, .nil, .nil]) (bs := 64) ?_ dTopic ?_ (by kernel_rfl) (by decide)
    · skip
      refine Fld.cons (m := 20) (m' := 21) (o' := 1) ?_ ?_ rfl (by decide) (by decide) (by decide)
      · skip
        exact (fld_var (fld_asg (asg_uns (asg_flex (u := 9) (asg_call mUnsafeCompactString (by decide)) (asg_call mUnsafeString (by decide)) rfl (by decide)) (asg_flex (u := 9) (asg_call mCompactString (by decide)) (asg_call mString (by decide)) rfl (by decide)) (by decide)) (by kernel_rfl) (by kernel_rfl) rfl (by decide)) (by decide))
      refine Fld.cons (m := 21) (m' := 22) (o' := 17) ?_ ?_ rfl (by decide) (by decide) (by decide)
      · skip
        exact (fld_uuid mUuid uuidT (by kernel_rfl) (by decide))
      refine Fld.cons (m := 22) (m' := 170) (o' := 18) ?_ ?_ rfl (by decide) (by decide) (by decide)
      · skip
        refine fld_arr (m' := 26) (e0 := 155) (bs := 24) okM completeM (asg_flex (u := 9) (asg_call mCompactArrayLen (by decide)) (asg_call mArrayLen (by decide)) rfl (by decide)) ?_ (by kernel_rfl) (by decide) (by kernel_rfl) (by kernel_rfl) (by kernel_rfl) (zeroB_is (z := [.int .i32 0, .int .i16 0, .pointer none, .map none]) (by kernel_rfl)) rfl rfl (by decide);refine elt_st (m' := 28) (et := 155) (z0 := [.n 0, .n 0, .nil, .nil]) (bs := 24) ?_ dTopicPartition ?_ (by kernel_rfl) (by decide)
        · skip
          refine Fld.cons (m := 28) (m' := 29) (o' := 1) ?_ ?_ rfl (by decide) (by decide) (by decide)
          · skip
            exact (fld_asg (asg_call mInt32 (by decide)) (by kernel_rfl) (by kernel_rfl) rfl (by decide))
          refine Fld.cons (m := 29) (m' := 30) (o' := 2) ?_ ?_ rfl (by decide) (by decide) (by decide)
          · skip
            exact (fld_asg (asg_call mInt16 (by decide)) (by kernel_rfl) (by kernel_rfl) rfl (by decide))
          refine Fld.cons (m := 30) (m' := 160) (o' := 3) ?_ ?_ rfl (by decide) (by decide) (by decide)
          · skip
            exact (fld_var (fld_asg (asg_flex (u := 9) (asg_uns (asg_call mUnsafeCompactNullableString (by decide)) (asg_call mCompactNullableString (by decide)) (by decide)) (asg_uns (asg_call mUnsafeNullableString (by decide)) (asg_call mNullableString (by decide)) (by decide)) rfl (by decide)) (by kernel_rfl) (by kernel_rfl) rfl (by decide)) (by decide))
          refine Fld.one ?_;exact (fld_tags (tf := 9) mTags (flatB_is (by kernel_rfl)) (by kernel_rfl) rfl (by decide))
        exact fun w => reps_zero tTopicPartition
      refine Fld.one ?_;exact (fld_tags (tf := 9) mTags (flatB_is (by kernel_rfl)) (by kernel_rfl) rfl (by decide))
    exact fun w => reps_zero tTopic
  refine Run.cons (m := 180) (o' := 6) ?_ ?_ rfl (by decide) (by decide) isL_nil
  · skip
    exact (fld_tags (tf := 9) mTags (flatB_is (by kernel_rfl)) (by kernel_rfl) rfl (by decide))
  exact run_end completeM (by decide)
def gsTopicPartition : List (V → T) := [tNum, tNum, tText]
def tgTopicPartition (x : V) : T := .mk 0 [] false (tellAll gsTopicPartition (x.items.drop 0)) (uOf gsTopicPartition (x.items.drop 0))
theorem cbTopicPartition : CbM Tryz.prog 141 := cb_m (et := 5) (TL := 34) (bs := 32) Tryz.func141 (by kernel_rfl) rfl rfl rfl (by kernel_rfl) treeT (by kernel_rfl) (by kernel_rfl) (by decide) tagF tagT (by kernel_rfl) octT
theorem tlTopicPartition : TellM Tryz.prog 117 (.st (tTopicPartition)) tgTopicPartition := by
  refine tell_root (pre := []) (tys := tTopicPartition) (st := 3) (m := 4) treeT Tryz.func117 (by kernel_rfl) rfl rfl rfl ?_ rfl rfl (by decide) (by decide);refine TRun.cons (o' := 1) (tl_num treeT (by kernel_rfl) (by kernel_rfl) (by kernel_rfl) (by kernel_rfl) (by kernel_rfl) (by decide) (by decide)) ?_ rfl (by decide);refine TRun.cons (o' := 2) (tl_num treeT (by kernel_rfl) (by kernel_rfl) (by kernel_rfl) (by kernel_rfl) (by kernel_rfl) (by decide) (by decide)) ?_ rfl (by decide);refine TRun.cons (o' := 3) (tl_fn treeT textM (by kernel_rfl) (by kernel_rfl) (by kernel_rfl) rfl (by decide)) ?_ rfl (by decide);exact TRun.tags treeT eachM cbTopicPartition sortedM (by kernel_rfl) (by kernel_rfl) (by decide)
def gsTopic : List (V → T) := [tStr, tUuid, fun x => .mk 0 [] x.isNil (x.items.map tgTopicPartition) []]
def tgTopic (x : V) : T := .mk 0 [] false (tellAll gsTopic (x.items.drop 0)) (uOf gsTopic (x.items.drop 0))
theorem cbTopic : CbM Tryz.prog 118 := cb_m (et := 5) (TL := 34) (bs := 32) Tryz.func118 (by kernel_rfl) rfl rfl rfl (by kernel_rfl) treeT (by kernel_rfl) (by kernel_rfl) (by decide) tagF tagT (by kernel_rfl) octT
theorem tlTopic : TellM Tryz.prog 79 (.st (tTopic)) tgTopic := by
  refine tell_root (pre := []) (tys := tTopic) (st := 3) (m := 4) treeT Tryz.func79 (by kernel_rfl) rfl rfl rfl ?_ rfl rfl (by decide) (by decide);refine TRun.cons (o' := 1) (tl_str treeT (by kernel_rfl) (by kernel_rfl) (by kernel_rfl) (by kernel_rfl) (by kernel_rfl) (by decide)) ?_ rfl (by decide);refine TRun.cons (o' := 17) (tl_uuid treeT (by kernel_rfl) (by kernel_rfl) uuidT (by kernel_rfl) octT (by decide)) ?_ rfl (by decide);refine TRun.cons2 (o' := 18) (tl_null treeT (by kernel_rfl) (by kernel_rfl) (by kernel_rfl) (by kernel_rfl) (by kernel_rfl) (by decide)) (tl_loop (m2 := 44) treeT (app_call1 treeT tlTopicPartition rfl (by kernel_rfl) (by kernel_rfl) (by kernel_rfl) (by kernel_rfl) (by decide)) (app_call2 treeT tlTopicPartition (by kernel_rfl) (by kernel_rfl) (by kernel_rfl) (by kernel_rfl) (by decide)) boolT (by kernel_rfl) (by kernel_rfl) (by kernel_rfl) (by kernel_rfl) (by kernel_rfl) (by decide)) ?_ rfl (by decide);exact TRun.tags treeT eachM cbTopic sortedM (by kernel_rfl) (by kernel_rfl) (by decide)
def gsR : List (V → T) := [tNum, tNum, tText, fun x => .mk 0 [] x.isNil (x.items.map tgTopic) []]
def tgR (x : V) : T := .mk 0 [] false (tellAll gsR (x.items.drop 1)) (uOf gsR (x.items.drop 1))
theorem cbR : CbM Tryz.prog 80 := cb_m (et := 5) (TL := 34) (bs := 32) Tryz.func80 (by kernel_rfl) rfl rfl rfl (by kernel_rfl) treeT (by kernel_rfl) (by kernel_rfl) (by decide) tagF tagT (by kernel_rfl) octT
theorem tlR : TellM Tryz.prog 46 (.st (.int .i16 :: tR)) tgR := by
  refine tell_root (pre := [.int .i16]) (tys := tR) (st := 3) (m := 4) treeT Tryz.func46 (by kernel_rfl) rfl rfl rfl ?_ rfl rfl (by decide) (by decide);refine TRun.cons (o' := 2) (tl_num treeT (by kernel_rfl) (by kernel_rfl) (by kernel_rfl) (by kernel_rfl) (by kernel_rfl) (by decide) (by decide)) ?_ rfl (by decide);refine TRun.cons (o' := 3) (tl_num treeT (by kernel_rfl) (by kernel_rfl) (by kernel_rfl) (by kernel_rfl) (by kernel_rfl) (by decide) (by decide)) ?_ rfl (by decide);refine TRun.cons (o' := 4) (tl_fn treeT textM (by kernel_rfl) (by kernel_rfl) (by kernel_rfl) rfl (by decide)) ?_ rfl (by decide);refine TRun.cons2 (o' := 5) (tl_null treeT (by kernel_rfl) (by kernel_rfl) (by kernel_rfl) (by kernel_rfl) (by kernel_rfl) (by decide)) (tl_loop (m2 := 52) treeT (app_call1 treeT tlTopic rfl (by kernel_rfl) (by kernel_rfl) (by kernel_rfl) (by kernel_rfl) (by decide)) (app_call2 treeT tlTopic (by kernel_rfl) (by kernel_rfl) (by kernel_rfl) (by kernel_rfl) (by decide)) boolT (by kernel_rfl) (by kernel_rfl) (by kernel_rfl) (by kernel_rfl) (by kernel_rfl) (by decide)) ?_ rfl (by decide);exact TRun.tags treeT eachM cbR sortedM (by kernel_rfl) (by kernel_rfl) (by decide)
theorem setM : SetM Tryz.prog 44 := set_m Tryz.func44 (by kernel_rfl) rfl rfl rfl (by kernel_rfl) (by kernel_rfl)
theorem newM : NewM Tryz.prog 41 (.int .i16 :: tR) [.n 0, .n 0, .n 0, .nil, .nil, .nil] := new_m (d := id) Tryz.func41 (by kernel_rfl) rfl rfl rfl (zeroB_is (by kernel_rfl)) dR (by decide)
theorem maxM : MaxM Tryz.prog 16 0 := maxd_m (tys := .int .i16 :: tR) (ds := [.n 0, .n 0, .n 0, .nil, .nil, .nil]) (mx := ((0 : Nat) : Int)) (fmx := 42) (fnw := 41) (f := 16) (P := Tryz.prog) Tryz.func16 (by kernel_rfl) rfl rfl rfl newM (maxv_m Tryz.func42 (by kernel_rfl) rfl rfl rfl) (by decide) (by kernel_rfl) (by kernel_rfl)
theorem rd1 : ReadD Tryz.prog 0 45 tR [.n 0, .n 0, .nil, .nil, .nil] fl gR := read_d rf Tryz.func45 (by kernel_rfl) rfl rfl rfl
theorem door : DoorGM Tryz.prog 0 18 (doorRes gR fl tgR) := doorg_m (te := 5) Tryz.func18 (by kernel_rfl) rfl rfl rfl treeT.flat (by kernel_rfl) (zeroB_is (by kernel_rfl)) (by kernel_rfl) (by kernel_rfl) (by kernel_rfl) newM setM rd1 tlR
def small (t : T) : Prop := KeysOk t ∧ ∀ ver flex, (partW fsQ ver flex t).length ≤ 2147483648
theorem ptTopicPartition (ver : Int) (h0 : 0 ≤ ver) (t : T) (hk : KeysOk t) : InvT gTopicPartition ver (fl ver) (RfN 0) fssQTopicPartition gsTopicPartition t.l 0 (if fl ver then unksW fssQTopicPartition t else []) (bodyL fssQTopicPartition ver (fl ver) t.l 0 ++ if fl ver then uvW (unksW fssQTopicPartition t).length ++ tagsW (unksW fssQTopicPartition t) else []) := by
  refine invt_cons (by decide) (has_all h0 (by decide) (by decide)) (inqf_i32 (by decide)) ?_;refine invt_cons (by decide) (has_all h0 (by decide) (by decide)) (inqf_i16 (by decide)) ?_;refine invt_cons (by decide) (has_all h0 (by decide) (by decide)) inqf_pstr ?_;exact invt_end hk
theorem poTopicPartition (ver : Int) (h0 : 0 ≤ ver) (t : T) : 1 ≤ (partW fssQTopicPartition ver (fl ver) t).length := part_pos (by kernel_rfl) (body_head (has_all h0 (by decide) (by decide)) (fieldW_pos (by decide)))
theorem ptTopic (ver : Int) (h0 : 0 ≤ ver) (t : T) (hk : KeysOk t) : InvT gTopic ver (fl ver) (RfN 1) fssQTopic gsTopic t.l 0 (if fl ver then unksW fssQTopic t else []) (bodyL fssQTopic ver (fl ver) t.l 0 ++ if fl ver then uvW (unksW fssQTopic t).length ++ tagsW (unksW fssQTopic t) else []) := by
  refine invt_cons (by decide) (has_all h0 (by decide) (by decide)) (inqf_strS (by decide)) ?_;refine invt_cons (by decide) (has_all h0 (by decide) (by decide)) (inqf_uuid (by decide)) ?_;refine invt_cons (by decide) (has_all h0 (by decide) (by decide)) (inqf_arr (by decide) (fun z hz => inq_el (by kernel_rfl) rfl (ptTopicPartition ver h0 z ((KeysOk.at hk.l 2).l z hz))) (fun z => value_pos10 (poTopicPartition ver h0 z))) ?_;exact invt_end hk
theorem poTopic (ver : Int) (h0 : 0 ≤ ver) (t : T) : 1 ≤ (partW fssQTopic ver (fl ver) t).length := part_pos (by kernel_rfl) (body_head (has_all h0 (by decide) (by decide)) (fieldW_pos (by decide)))
theorem ptR (ver : Int) (h0 : 0 ≤ ver) (t : T) (hk : KeysOk t) : InvT gR ver (fl ver) (RfN 2) fsQ gsR t.l 0 (if fl ver then unksW fsQ t else []) (bodyL fsQ ver (fl ver) t.l 0 ++ if fl ver then uvW (unksW fsQ t).length ++ tagsW (unksW fsQ t) else []) := by
  refine invt_cons (by decide) (has_all h0 (by decide) (by decide)) (inqf_i32 (by decide)) ?_;refine invt_cons (by decide) (has_all h0 (by decide) (by decide)) (inqf_i16 (by decide)) ?_;refine invt_cons (by decide) (has_all h0 (by decide) (by decide)) inqf_pstr ?_;refine invt_cons (by decide) (has_all h0 (by decide) (by decide)) (inqf_arr (by decide) (fun z hz => inq_el (by kernel_rfl) rfl (ptTopic ver h0 z ((KeysOk.at hk.l 3).l z hz))) (fun z => value_pos10 (poTopic ver h0 z))) ?_;exact invt_end hk
theorem law : LawT Tryz.prog 0 4 small := by
  refine lawt_m (mx := 0) (fs := fsQ) (enc := partW fsQ) Tryz.func4 (by kernel_rfl) rfl rfl rfl (flatB_is (by kernel_rfl)) (flatB_is (by kernel_rfl)) (flatB_is (by kernel_rfl)) (by kernel_rfl) (by kernel_rfl) (by kernel_rfl) wFit maxM (by decide) ifsQ verM (wWrite fsQ (by decide)) door flexM (⟨enters_of Tryz.func15 (by kernel_rfl) rfl, gotM⟩) (toldN 2 fsQ (by kernel_rfl)) ?_;rintro ver h0 h1 t ⟨hk, hs⟩;refine ⟨hs _ _, ?_⟩;rw [show (decide ((0 : Int) ≥ 0) && decide (ver ≥ 0)) = fl ver from by simp [fl]];exact td_plain (flx := fl) (by kernel_rfl) (fun _ => rfl) (ptR ver h0 t hk)
end Go.Proofs.YtalkojnkkncdfaaGreatDoor.AlterShareGroupOffsetsResponse
