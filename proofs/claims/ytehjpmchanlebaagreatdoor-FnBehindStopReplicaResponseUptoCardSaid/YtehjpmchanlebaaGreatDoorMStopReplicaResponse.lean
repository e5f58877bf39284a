/- The parts of the law on StopReplicaResponse. Printed by gen_msg.py. -/
import Derived.Test.YtehjpmchanlebaaGreatDoorPStopReplicaResponse
import Derived.Test.YtehjpmchanlebaaGreatDoorCStopReplicaResponse
import Derived.Test.YtehjpmchanlebaaGreatDoorKqP06
set_option linter.unusedVariables false
set_option linter.unusedSimpArgs false
namespace Go.Proofs.YtehjpmchanlebaaGreatDoor.StopReplicaResponse
open Go.Kq
def tPartition : List Ty := [.str, .int .i32, .int .i16, .tags]
def gPartition : Rd := (rdCons (rdOne fun _ fl st => if fl then gCStr st else gStr st) (rdCons (rdOne fun _ _ => gNum .i32 4) (rdCons (rdOne fun _ _ => gNum .i16 2) (rdCons rdTagsF rdSt0))))
theorem dPartition : DefM Tryz.prog 63 (tPartition) id := def_skip Tryz.func63 (by kernel_rfl) (by kernel_rfl) (by kernel_rfl)
def tR : List Ty := [.int .i16, .arr (.st tPartition), .tags]
def gR : Rd := (rdCons (rdOne fun _ _ => gNum .i16 2) (rdCons (rdArr (fun _ fl st => if fl then gCALen st else gALen st) gPartition) (rdCons rdTagsF rdSt0)))
theorem dR : DefM Tryz.prog 29 (.int .i16 :: tR) id := def_skip Tryz.func29 (by kernel_rfl) (by kernel_rfl) (by kernel_rfl)
def fl : Int → Bool := fun v => decide (v ≥ 2)
set_option maxRecDepth 20000 in
theorem rf : ReadM Tryz.prog 1 38 tR [.n 0, .nil, .nil] fl gR := by
  refine root Tryz.func38 (by kernel_rfl) rfl rfl rfl ?_ dR (fun _ => rfl) readerT (by kernel_rfl) (by kernel_rfl) (isL_cons (isL_cons (isL_cons isL_nil))) (by decide)
  refine bdy_fl ?_ (by decide)
  refine Run.cons (m := 11) (o' := 2) ?_ ?_ rfl (by decide) (by decide) (isL_cons (isL_cons isL_nil))
  · skip
    exact (fld_asg (asg_call mInt16 (by decide)) (by kernel_rfl) (by kernel_rfl) rfl (by decide))
  refine Run.cons (m := 12) (o' := 3) ?_ ?_ rfl (by decide) (by decide) (isL_cons isL_nil)
  · skip
    refine fld_arr (m' := 16) (e0 := 78) (bs := 32) okM completeM (asg_flex (u := 9) (asg_call mCompactArrayLen (by decide)) (asg_call mArrayLen (by decide)) rfl (by decide)) ?_ (by kernel_rfl) (by decide) (by kernel_rfl) (by kernel_rfl) (by kernel_rfl) (zeroB_is (z := [.string ⟨#[]⟩, .int .i32 0, .int .i16 0, .map none]) (by kernel_rfl)) rfl rfl (by decide)
    refine elt_st (m' := 18) (et := 78) (z0 := [.s [], .n 0, .n 0, .nil]) (bs := 32) ?_ dPartition ?_ (by kernel_rfl) (by decide)
    · skip
      refine Fld.cons (m := 18) (m' := 19) (o' := 1) ?_ ?_ rfl (by decide) (by decide) (by decide)
      · skip
        exact (fld_var (fld_asg (asg_uns (asg_flex (u := 9) (asg_call mUnsafeCompactString (by decide)) (asg_call mUnsafeString (by decide)) rfl (by decide)) (asg_flex (u := 9) (asg_call mCompactString (by decide)) (asg_call mString (by decide)) rfl (by decide)) (by decide)) (by kernel_rfl) (by kernel_rfl) rfl (by decide)) (by decide))
      refine Fld.cons (m := 19) (m' := 20) (o' := 2) ?_ ?_ rfl (by decide) (by decide) (by decide)
      · skip
        exact (fld_asg (asg_call mInt32 (by decide)) (by kernel_rfl) (by kernel_rfl) rfl (by decide))
      refine Fld.cons (m := 20) (m' := 89) (o' := 3) ?_ ?_ rfl (by decide) (by decide) (by decide)
      · skip
        exact (fld_asg (asg_call mInt16 (by decide)) (by kernel_rfl) (by kernel_rfl) rfl (by decide))
      refine Fld.one ?_
      exact (fld_tags (tf := 9) mTags (flatB_is (by kernel_rfl)) (by kernel_rfl) rfl (by decide))
    · exact fun w => reps_zero tPartition
  refine Run.cons (m := 99) (o' := 4) ?_ ?_ rfl (by decide) (by decide) isL_nil
  · skip
    exact (fld_tags (tf := 9) mTags (flatB_is (by kernel_rfl)) (by kernel_rfl) rfl (by decide))
  exact run_end completeM (by decide)
theorem setM : SetM Tryz.prog 20 := set_m Tryz.func20 (by kernel_rfl) rfl rfl rfl (by kernel_rfl) (by kernel_rfl)
theorem newM : NewM Tryz.prog 16 (.int .i16 :: tR) [.n 0, .n 0, .nil, .nil] := new_m (d := id) Tryz.func16 (by kernel_rfl) rfl rfl rfl (zeroB_is (by kernel_rfl)) dR (by decide)
theorem maxM : MaxM Tryz.prog 6 4 := maxd_m (tys := .int .i16 :: tR) (ds := [.n 0, .n 0, .nil, .nil]) (mx := ((4 : Nat) : Int)) (fmx := 17) (fnw := 16) (f := 6) (P := Tryz.prog) Tryz.func6 (by kernel_rfl) rfl rfl rfl newM (maxv_m Tryz.func17 (by kernel_rfl) rfl rfl rfl) (by decide) (by kernel_rfl) (by kernel_rfl)
theorem rd1 : ReadD Tryz.prog 1 21 tR [.n 0, .nil, .nil] fl gR := read_d rf Tryz.func21 (by kernel_rfl) rfl rfl rfl
theorem door : BehM Tryz.prog 1 10 (behRes gR fl fun ver => apSt ((fun _ => []) :: gaStopReplicaResponse ver)) := behind_m (te := 5) Tryz.func10 (by kernel_rfl) rfl rfl rfl (by kernel_rfl) octT (by kernel_rfl) (by kernel_rfl) (by kernel_rfl) newM setM rd1 app
theorem plPartition (ver : Int) (hv : 0 ≤ ver) (t : T) (hk : KeysOk t) : InvL gPartition ver (decide (ver ≥ 2)) (gaStopReplicaResponsePartition ver) (partW fssStopReplicaResponsePartition ver (decide (ver ≥ 2)) t) := by
  refine inv_part (by kernel_rfl) ?_
  refine invb_cons (inv_has (has_all hv (by decide) (by decide)) (invf_str (by decide))) ?_
  refine invb_cons (inv_has (has_all hv (by decide) (by decide)) invf_i32) ?_
  refine invb_cons (inv_has (has_all hv (by decide) (by decide)) invf_i16) ?_
  exact invb_nil (inv_tagend hk)
theorem poPartition (ver : Int) (hv : 0 ≤ ver) (t : T) : 1 ≤ (partW fssStopReplicaResponsePartition ver (decide (ver ≥ 2)) t).length := part_pos (by kernel_rfl) (body_head (has_all hv (by decide) (by decide)) (fieldW_pos (by decide)))
theorem plR (ver : Int) (hv : 0 ≤ ver) (t : T) (hk : KeysOk t) : InvL gR ver (decide (ver ≥ 2)) (gaStopReplicaResponse ver) (partW fsStopReplicaResponse ver (decide (ver ≥ 2)) t) := by
  refine inv_part (by kernel_rfl) ?_
  refine invb_cons (inv_has (has_all hv (by decide) (by decide)) invf_i16) ?_
  refine invb_cons (inv_has (has_all hv (by decide) (by decide)) (invf_arr (by decide) (fun z hz => inv_el (plPartition ver hv z ((KeysOk.at hk.l 1).l z hz))) (fun z => value_pos10 (poPartition ver hv z)))) ?_
  exact invb_nil (inv_tagend hk)
def small (t : T) : Prop := KeysOk t ∧ ∀ ver flex, (partW fsStopReplicaResponse ver flex t).length ≤ 2147483648
theorem law : LawB Tryz.prog 1 3 small := by
  refine lawb_m (te := 5) (mx := 4) (fs := fsStopReplicaResponse) (enc := partW fsStopReplicaResponse) Tryz.func3 (by kernel_rfl) rfl rfl rfl (by kernel_rfl) octT (by kernel_rfl) (flatB_is (by kernel_rfl)) (flatB_is (by kernel_rfl)) wFit maxM (by decide) ifsStopReplicaResponse verM (wWrite fsStopReplicaResponse (by decide)) door sameM ?_
  rintro ver h0 h1 t ⟨hk, hs⟩
  refine ⟨hs _ _, ?_⟩
  rw [show (decide ((2 : Int) ≥ 0) && decide (ver ≥ 2)) = fl ver from by simp [fl]]
  exact beh_plain (plR ver h0 t hk)
end Go.Proofs.YtehjpmchanlebaaGreatDoor.StopReplicaResponse
