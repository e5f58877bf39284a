/- The parts of the law on AssignReplicasToDirsRequest. Printed by gen_msg.py. -/
import Derived.Test.YtjalbgfaneemfaaGreatDoorPAssignReplicasToDirsRequest
import Derived.Test.YtjalbgfaneemfaaGreatDoorCAssignReplicasToDirsRequest
import Derived.Test.YtjalbgfaneemfaaGreatDoorKqCoF
import Derived.Test.YtjalbgfaneemfaaGreatDoorKqP06
set_option linter.unusedVariables false
set_option linter.unusedSimpArgs false
namespace Go.Proofs.YtjalbgfaneemfaaGreatDoor.AssignReplicasToDirsRequest
open Go.Kq
def tDirectoryTopicPartition : List Ty := [.int .i32, .tags]
def gDirectoryTopicPartition : Rd := (rdCons (rdOne fun _ _ => gNum .i32 4) (rdCons rdTagsF rdSt0))
theorem dDirectoryTopicPartition : DefM Tryz.prog 112 (tDirectoryTopicPartition) id := def_skip Tryz.func112 (by kernel_rfl) (by kernel_rfl) (by kernel_rfl)
def tDirectoryTopic : List Ty := [.uuid, .arr (.st tDirectoryTopicPartition), .tags]
def gDirectoryTopic : Rd := (rdCons (rdOne fun _ _ => gUuid) (rdCons (rdArr (fun _ fl st => if fl then gCALen st else gALen st) gDirectoryTopicPartition) (rdCons rdTagsF rdSt0)))
theorem dDirectoryTopic : DefM Tryz.prog 111 (tDirectoryTopic) id := def_skip Tryz.func111 (by kernel_rfl) (by kernel_rfl) (by kernel_rfl)
def tDirectory : List Ty := [.uuid, .arr (.st tDirectoryTopic), .tags]
def gDirectory : Rd := (rdCons (rdOne fun _ _ => gUuid) (rdCons (rdArr (fun _ fl st => if fl then gCALen st else gALen st) gDirectoryTopic) (rdCons rdTagsF rdSt0)))
theorem dDirectory : DefM Tryz.prog 110 (tDirectory) id := def_skip Tryz.func110 (by kernel_rfl) (by kernel_rfl) (by kernel_rfl)
def tR : List Ty := [.int .i32, .int .i64, .arr (.st tDirectory), .tags]
def gR : Rd := (rdCons (rdOne fun _ _ => gNum .i32 4) (rdCons (rdOne fun _ _ => gNum .i64 8) (rdCons (rdArr (fun _ fl st => if fl then gCALen st else gALen st) gDirectory) (rdCons rdTagsF rdSt0))))
theorem dR : DefM Tryz.prog 68 (.int .i16 :: tR) (fun xs => (xs.set 2 (.n (-1)))) := def_sets (N := 5) Tryz.func68 (by kernel_rfl) rfl rfl (by decide) rfl (DRun.one (i := 2) (ty := .int .i64) (x := .n (-1)) (by kernel_rfl) (by kernel_rfl) rfl rfl rfl rfl (fun w => ⟨_, rfl, rfl, by decide, by decide⟩) (by decide))
def fl : Int → Bool := fun v => decide (v ≥ 0)
set_option maxRecDepth 20000 in
theorem rf : ReadM Tryz.prog 1 70 tR [.n 0, .n (-1), .nil, .nil] fl gR := by
  refine root Tryz.func70 (by kernel_rfl) rfl rfl rfl ?_ dR (fun _ => rfl) readerT (by kernel_rfl) (by kernel_rfl) (isL_cons (isL_cons (isL_cons (isL_cons isL_nil)))) (by decide);refine bdy_fl ?_ (by decide);refine Run.cons (m := 11) (o' := 2) ?_ ?_ rfl (by decide) (by decide) (isL_cons (isL_cons (isL_cons isL_nil)))
  · skip
    exact (fld_asg (asg_call mInt32 (by decide)) (by kernel_rfl) (by kernel_rfl) rfl (by decide))
  refine Run.cons (m := 12) (o' := 3) ?_ ?_ rfl (by decide) (by decide) (isL_cons (isL_cons isL_nil))
  · skip
    exact (fld_asg (asg_call mInt64 (by decide)) (by kernel_rfl) (by kernel_rfl) rfl (by decide))
  refine Run.cons (m := 13) (o' := 4) ?_ ?_ rfl (by decide) (by decide) (isL_cons isL_nil)
  · skip
    refine fld_arr (m' := 17) (e0 := 155) (bs := 48) okM completeM (asg_flex (u := 9) (asg_call mCompactArrayLen (by decide)) (asg_call mArrayLen (by decide)) rfl (by decide)) ?_ (by kernel_rfl) (by decide) (by kernel_rfl) (by kernel_rfl) (by kernel_rfl) (zeroB_is (z := [.int .u8 0, .int .u8 0, .int .u8 0, .int .u8 0, .int .u8 0, .int .u8 0, .int .u8 0, .int .u8 0, .int .u8 0, .int .u8 0, .int .u8 0, .int .u8 0, .int .u8 0, .int .u8 0, .int .u8 0, .int .u8 0, .slice none 0 0, .map none]) (by kernel_rfl)) rfl rfl (by decide);refine elt_st (m' := 19) (et := 155) (z0 := [.s uuid0, .nil, .nil]) (bs := 48) ?_ dDirectory ?_ (by kernel_rfl) (by decide)
    · skip
      refine Fld.cons (m := 19) (m' := 20) (o' := 16) ?_ ?_ rfl (by decide) (by decide) (by decide)
      · skip
        exact (fld_uuid mUuid uuidT (by kernel_rfl) (by decide))
      refine Fld.cons (m := 20) (m' := 179) (o' := 17) ?_ ?_ rfl (by decide) (by decide) (by decide)
      · skip
        refine fld_arr (m' := 24) (e0 := 159) (bs := 48) okM completeM (asg_flex (u := 9) (asg_call mCompactArrayLen (by decide)) (asg_call mArrayLen (by decide)) rfl (by decide)) ?_ (by kernel_rfl) (by decide) (by kernel_rfl) (by kernel_rfl) (by kernel_rfl) (zeroB_is (z := [.int .u8 0, .int .u8 0, .int .u8 0, .int .u8 0, .int .u8 0, .int .u8 0, .int .u8 0, .int .u8 0, .int .u8 0, .int .u8 0, .int .u8 0, .int .u8 0, .int .u8 0, .int .u8 0, .int .u8 0, .int .u8 0, .slice none 0 0, .map none]) (by kernel_rfl)) rfl rfl (by decide);refine elt_st (m' := 26) (et := 159) (z0 := [.s uuid0, .nil, .nil]) (bs := 48) ?_ dDirectoryTopic ?_ (by kernel_rfl) (by decide)
        · skip
          refine Fld.cons (m := 26) (m' := 27) (o' := 16) ?_ ?_ rfl (by decide) (by decide) (by decide)
          · skip
            exact (fld_uuid mUuid uuidT (by kernel_rfl) (by decide))
          refine Fld.cons (m := 27) (m' := 169) (o' := 17) ?_ ?_ rfl (by decide) (by decide) (by decide)
          · skip
            refine fld_arr (m' := 31) (e0 := 162) (bs := 16) okM completeM (asg_flex (u := 9) (asg_call mCompactArrayLen (by decide)) (asg_call mArrayLen (by decide)) rfl (by decide)) ?_ (by kernel_rfl) (by decide) (by kernel_rfl) (by kernel_rfl) (by kernel_rfl) (zeroB_is (z := [.int .i32 0, .map none]) (by kernel_rfl)) rfl rfl (by decide);refine elt_st (m' := 33) (et := 162) (z0 := [.n 0, .nil]) (bs := 16) ?_ dDirectoryTopicPartition ?_ (by kernel_rfl) (by decide)
            · skip
              refine Fld.cons (m := 33) (m' := 159) (o' := 1) ?_ ?_ rfl (by decide) (by decide) (by decide)
              · skip
                exact (fld_asg (asg_call mInt32 (by decide)) (by kernel_rfl) (by kernel_rfl) rfl (by decide))
              refine Fld.one ?_;exact (fld_tags (tf := 9) mTags (flatB_is (by kernel_rfl)) (by kernel_rfl) rfl (by decide))
            exact fun w => reps_zero tDirectoryTopicPartition
          refine Fld.one ?_;exact (fld_tags (tf := 9) mTags (flatB_is (by kernel_rfl)) (by kernel_rfl) rfl (by decide))
        exact fun w => reps_zero tDirectoryTopic
      refine Fld.one ?_;exact (fld_tags (tf := 9) mTags (flatB_is (by kernel_rfl)) (by kernel_rfl) rfl (by decide))
    exact fun w => reps_zero tDirectory
  refine Run.cons (m := 189) (o' := 5) ?_ ?_ rfl (by decide) (by decide) isL_nil
  · skip
    exact (fld_tags (tf := 9) mTags (flatB_is (by kernel_rfl)) (by kernel_rfl) rfl (by decide))
  exact run_end completeM (by decide)
theorem setM : SetM Tryz.prog 44 := set_m Tryz.func44 (by kernel_rfl) rfl rfl rfl (by kernel_rfl) (by kernel_rfl)
theorem newM : NewM Tryz.prog 41 (.int .i16 :: tR) [.n 0, .n 0, .n (-1), .nil, .nil] := new_m (d := (fun xs => (xs.set 2 (.n (-1))))) Tryz.func41 (by kernel_rfl) rfl rfl rfl (zeroB_is (by kernel_rfl)) dR (by decide)
theorem maxM : MaxM Tryz.prog 20 0 := maxd_m (tys := .int .i16 :: tR) (ds := [.n 0, .n 0, .n (-1), .nil, .nil]) (mx := ((0 : Nat) : Int)) (fmx := 42) (fnw := 41) (f := 20) (P := Tryz.prog) Tryz.func20 (by kernel_rfl) rfl rfl rfl newM (maxv_m Tryz.func42 (by kernel_rfl) rfl rfl rfl) (by decide) (by kernel_rfl) (by kernel_rfl)
theorem rd1 : ReadD Tryz.prog 1 45 tR [.n 0, .n (-1), .nil, .nil] fl gR := read_d rf Tryz.func45 (by kernel_rfl) rfl rfl rfl
theorem keyM : KeyM Tryz.prog 201 73 := key_m Tryz.func201 (by kernel_rfl) rfl rfl rfl
theorem getvM : GetVM Tryz.prog 199 := getv_m Tryz.func199 (by kernel_rfl) rfl rfl rfl (by kernel_rfl) (by kernel_rfl)
theorem flxM : FlxM Tryz.prog 200 fl := flx_m (kx := 0) Tryz.func200 (by kernel_rfl) rfl rfl rfl (by kernel_rfl) (by kernel_rfl)
theorem reqM : ReqM Tryz.prog 61 tR (fun ver => apSt ((fun _ => []) :: gaQ ver)) 73 fl := ⟨⟨198, (by kernel_rfl), app⟩, ⟨201, (by kernel_rfl), keyM⟩, ⟨199, (by kernel_rfl), getvM⟩, ⟨200, (by kernel_rfl), flxM⟩⟩
theorem appReq : AppReqM Tryz.prog 64 61 tR (fun ver => apSt ((fun _ => []) :: gaQ ver)) 73 fl := appreq_m (te := 5) Tryz.func64 (by kernel_rfl) rfl rfl rfl (by kernel_rfl) octT (by kernel_rfl) (by kernel_rfl) (by kernel_rfl) (by kernel_rfl) (by kernel_rfl) (by kernel_rfl) (by kernel_rfl) (by decide) (by decide) reqM sI16 sI32 oI32 sNStr
theorem framedM : FramedM Tryz.prog 34 61 tR (fun ver => apSt ((fun _ => []) :: gaQ ver)) 73 fl := framed_m (te := 91) (tb := 16) Tryz.func34 (by kernel_rfl) rfl rfl rfl (flatB_is (by kernel_rfl)) (by kernel_rfl) (by kernel_rfl) (by kernel_rfl) newFM clientM appReq
theorem door : FrxM Tryz.prog 1 22 (behRes gR fl (fun ver => apSt ((fun _ => []) :: gaQ ver))) 73 fl := framex_m (te := 5) Tryz.func22 (by kernel_rfl) rfl rfl rfl (by kernel_rfl) octT (by kernel_rfl) (by kernel_rfl) (by kernel_rfl) (flatB_is (by kernel_rfl)) (by kernel_rfl) newM setM rd1 framedM
theorem plDirectoryTopicPartition (ver : Int) (hv : 0 ≤ ver) (t : T) (hk : KeysOk t) : InvL gDirectoryTopicPartition ver (decide (ver ≥ 0)) (gaQDirectoryTopicPartition ver) (partW fssQDirectoryTopicPartition ver (decide (ver ≥ 0)) t) := by
  refine inv_part (by kernel_rfl) ?_;refine invb_cons (inv_has (has_all hv (by decide) (by decide)) invf_i32) ?_;exact invb_nil (inv_tagend hk)
theorem poDirectoryTopicPartition (ver : Int) (hv : 0 ≤ ver) (t : T) : 1 ≤ (partW fssQDirectoryTopicPartition ver (decide (ver ≥ 0)) t).length := part_pos (by kernel_rfl) (body_head (has_all hv (by decide) (by decide)) (fieldW_pos (by decide)))
theorem plDirectoryTopic (ver : Int) (hv : 0 ≤ ver) (t : T) (hk : KeysOk t) : InvL gDirectoryTopic ver (decide (ver ≥ 0)) (gaQDirectoryTopic ver) (partW fssQDirectoryTopic ver (decide (ver ≥ 0)) t) := by
  refine inv_part (by kernel_rfl) ?_;refine invb_cons (inv_has (has_all hv (by decide) (by decide)) invf_uuid) ?_;refine invb_cons (inv_has (has_all hv (by decide) (by decide)) (invf_arr (by decide) (fun z hz => inv_el (plDirectoryTopicPartition ver hv z ((KeysOk.at hk.l 1).l z hz))) (fun z => value_pos10 (poDirectoryTopicPartition ver hv z)))) ?_;exact invb_nil (inv_tagend hk)
theorem poDirectoryTopic (ver : Int) (hv : 0 ≤ ver) (t : T) : 1 ≤ (partW fssQDirectoryTopic ver (decide (ver ≥ 0)) t).length := part_pos (by kernel_rfl) (body_head (has_all hv (by decide) (by decide)) (fieldW_pos (by decide)))
theorem plDirectory (ver : Int) (hv : 0 ≤ ver) (t : T) (hk : KeysOk t) : InvL gDirectory ver (decide (ver ≥ 0)) (gaQDirectory ver) (partW fssQDirectory ver (decide (ver ≥ 0)) t) := by
  refine inv_part (by kernel_rfl) ?_;refine invb_cons (inv_has (has_all hv (by decide) (by decide)) invf_uuid) ?_;refine invb_cons (inv_has (has_all hv (by decide) (by decide)) (invf_arr (by decide) (fun z hz => inv_el (plDirectoryTopic ver hv z ((KeysOk.at hk.l 1).l z hz))) (fun z => value_pos10 (poDirectoryTopic ver hv z)))) ?_;exact invb_nil (inv_tagend hk)
theorem poDirectory (ver : Int) (hv : 0 ≤ ver) (t : T) : 1 ≤ (partW fssQDirectory ver (decide (ver ≥ 0)) t).length := part_pos (by kernel_rfl) (body_head (has_all hv (by decide) (by decide)) (fieldW_pos (by decide)))
theorem plR (ver : Int) (hv : 0 ≤ ver) (t : T) (hk : KeysOk t) : InvL gR ver (decide (ver ≥ 0)) (gaQ ver) (partW fsQ ver (decide (ver ≥ 0)) t) := by
  refine inv_part (by kernel_rfl) ?_;refine invb_cons (inv_has (has_all hv (by decide) (by decide)) invf_i32) ?_;refine invb_cons (inv_has (has_all hv (by decide) (by decide)) invf_i64) ?_;refine invb_cons (inv_has (has_all hv (by decide) (by decide)) (invf_arr (by decide) (fun z hz => inv_el (plDirectory ver hv z ((KeysOk.at hk.l 2).l z hz))) (fun z => value_pos10 (poDirectory ver hv z)))) ?_;exact invb_nil (inv_tagend hk)
def small (t : T) : Prop := KeysOk t ∧ ∀ ver flex, (partW fsQ ver flex t).length ≤ 2147483648
theorem law : LawF Tryz.prog 1 5 small := by
  refine lawf_m (mx := 0) (fs := fsQ) (enc := partW fsQ) Tryz.func5 (by kernel_rfl) rfl rfl rfl (flatB_is (by kernel_rfl)) (flatB_is (by kernel_rfl)) (flatB_is (by kernel_rfl)) (by kernel_rfl) (by kernel_rfl) (by kernel_rfl) (by kernel_rfl) (by kernel_rfl) (by kernel_rfl) fit4 wFit maxM (by decide) ifsQ verM (wWrite fsQ (by decide)) door flexM frameS sameM (fun ver _ _ => by simp [fl]) ?_;rintro ver h0 h1 t ⟨hk, hs⟩;refine ⟨hs _ _, ?_⟩;rw [show (decide ((0 : Int) ≥ 0) && decide (ver ≥ 0)) = fl ver from by simp [fl]];exact beh_plain (plR ver h0 t hk)
end Go.Proofs.YtjalbgfaneemfaaGreatDoor.AssignReplicasToDirsRequest
