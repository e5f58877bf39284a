/- The parts of the law on OffsetForLeaderEpochRequest. Printed by gen_msg.py. -/
import Derived.Test.YtfapegflnipofaaGreatDoorPOffsetForLeaderEpochRequest
import Derived.Test.YtfapegflnipofaaGreatDoorCOffsetForLeaderEpochRequest
import Derived.Test.YtfapegflnipofaaGreatDoorKqP06
set_option linter.unusedVariables false
set_option linter.unusedSimpArgs false
namespace Go.Proofs.YtfapegflnipofaaGreatDoor.OffsetForLeaderEpochRequest
open Go.Kq
def tTopicPartition : List Ty := [.int .i32, .int .i32, .int .i32, .tags]
def gTopicPartition : Rd := (rdCons (rdOne fun _ _ => gNum .i32 4) (rdCons (rdIf (fun v => decide (v ≥ 2)) (.n (-1)) (rdOne fun _ _ => gNum .i32 4)) (rdCons (rdOne fun _ _ => gNum .i32 4) (rdCons rdTagsF rdSt0))))
theorem dTopicPartition : DefM Tryz.prog 135 (tTopicPartition) (fun xs => (xs.set 1 (.n (-1)))) := def_sets (N := 5) Tryz.func135 (by kernel_rfl) rfl rfl (by decide) rfl (DRun.one (i := 1) (ty := .int .i32) (x := .n (-1)) (by kernel_rfl) (by kernel_rfl) rfl rfl rfl rfl (fun w => ⟨_, rfl, rfl, by decide, by decide⟩) (by decide))
def tTopic : List Ty := [.str, .arr (.st tTopicPartition), .tags]
def gTopic : Rd := (rdCons (rdOne fun _ fl st => if fl then gCStr st else gStr st) (rdCons (rdArr (fun _ fl st => if fl then gCALen st else gALen st) gTopicPartition) (rdCons rdTagsF rdSt0)))
theorem dTopic : DefM Tryz.prog 134 (tTopic) id := def_skip Tryz.func134 (by kernel_rfl) (by kernel_rfl) (by kernel_rfl)
def tR : List Ty := [.int .i32, .arr (.st tTopic), .tags]
def gR : Rd := (rdCons (rdIf (fun v => decide (v ≥ 3)) (.n (-2)) (rdOne fun _ _ => gNum .i32 4)) (rdCons (rdArr (fun _ fl st => if fl then gCALen st else gALen st) gTopic) (rdCons rdTagsF rdSt0)))
theorem dR : DefM Tryz.prog 91 (.int .i16 :: tR) (fun xs => (xs.set 1 (.n (-2)))) := def_sets (N := 5) Tryz.func91 (by kernel_rfl) rfl rfl (by decide) rfl (DRun.one (i := 1) (ty := .int .i32) (x := .n (-2)) (by kernel_rfl) (by kernel_rfl) rfl rfl rfl rfl (fun w => ⟨_, rfl, rfl, by decide, by decide⟩) (by decide))
def fl : Int → Bool := fun v => decide (v ≥ 4)
set_option maxRecDepth 20000 in
theorem rf : ReadM Tryz.prog 1 93 tR [.n (-2), .nil, .nil] fl gR := by
  refine root Tryz.func93 (by kernel_rfl) rfl rfl rfl ?_ dR (fun _ => rfl) readerT (by kernel_rfl) (by kernel_rfl) (isL_cons (isL_cons (isL_cons isL_nil))) (by decide)
  refine bdy_fl ?_ (by decide)
  refine Run.cons (m := 11) (o' := 2) ?_ ?_ rfl (by decide) (by decide) (isL_cons (isL_cons isL_nil))
  · skip
    exact (fld_if (fld_asg (asg_call mInt32 (by decide)) (by kernel_rfl) (by kernel_rfl) rfl (by decide)) (fun i => rfl) (by decide))
  refine Run.cons (m := 12) (o' := 3) ?_ ?_ rfl (by decide) (by decide) (isL_cons isL_nil)
  · skip
    refine fld_arr (m' := 16) (e0 := 99) (bs := 48) okM completeM (asg_flex (u := 9) (asg_call mCompactArrayLen (by decide)) (asg_call mArrayLen (by decide)) rfl (by decide)) ?_ (by kernel_rfl) (by decide) (by kernel_rfl) (by kernel_rfl) (by kernel_rfl) (zeroB_is (z := [.string ⟨#[]⟩, .slice none 0 0, .map none]) (by kernel_rfl)) rfl rfl (by decide)
    refine elt_st (m' := 18) (et := 99) (z0 := [.s [], .nil, .nil]) (bs := 48) ?_ dTopic ?_ (by kernel_rfl) (by decide)
    · skip
      refine Fld.cons (m := 18) (m' := 19) (o' := 1) ?_ ?_ rfl (by decide) (by decide) (by decide)
      · skip
        exact (fld_var (fld_asg (asg_uns (asg_flex (u := 9) (asg_call mUnsafeCompactString (by decide)) (asg_call mUnsafeString (by decide)) rfl (by decide)) (asg_flex (u := 9) (asg_call mCompactString (by decide)) (asg_call mString (by decide)) rfl (by decide)) (by decide)) (by kernel_rfl) (by kernel_rfl) rfl (by decide)) (by decide))
      refine Fld.cons (m := 19) (m' := 144) (o' := 2) ?_ ?_ rfl (by decide) (by decide) (by decide)
      · skip
        refine fld_arr (m' := 23) (e0 := 102) (bs := 24) okM completeM (asg_flex (u := 9) (asg_call mCompactArrayLen (by decide)) (asg_call mArrayLen (by decide)) rfl (by decide)) ?_ (by kernel_rfl) (by decide) (by kernel_rfl) (by kernel_rfl) (by kernel_rfl) (zeroB_is (z := [.int .i32 0, .int .i32 0, .int .i32 0, .map none]) (by kernel_rfl)) rfl rfl (by decide)
        refine elt_st (m' := 25) (et := 102) (z0 := [.n 0, .n 0, .n 0, .nil]) (bs := 24) ?_ dTopicPartition ?_ (by kernel_rfl) (by decide)
        · skip
          refine Fld.cons (m := 25) (m' := 26) (o' := 1) ?_ ?_ rfl (by decide) (by decide) (by decide)
          · skip
            exact (fld_asg (asg_call mInt32 (by decide)) (by kernel_rfl) (by kernel_rfl) rfl (by decide))
          refine Fld.cons (m := 26) (m' := 27) (o' := 2) ?_ ?_ rfl (by decide) (by decide) (by decide)
          · skip
            exact (fld_if (fld_asg (asg_call mInt32 (by decide)) (by kernel_rfl) (by kernel_rfl) rfl (by decide)) (fun i => rfl) (by decide))
          refine Fld.cons (m := 27) (m' := 134) (o' := 3) ?_ ?_ rfl (by decide) (by decide) (by decide)
          · skip
            exact (fld_asg (asg_call mInt32 (by decide)) (by kernel_rfl) (by kernel_rfl) rfl (by decide))
          refine Fld.one ?_
          exact (fld_tags (tf := 9) mTags (flatB_is (by kernel_rfl)) (by kernel_rfl) rfl (by decide))
        · exact fun w => reps_zero tTopicPartition
      refine Fld.one ?_
      exact (fld_tags (tf := 9) mTags (flatB_is (by kernel_rfl)) (by kernel_rfl) rfl (by decide))
    · exact fun w => reps_zero tTopic
  refine Run.cons (m := 154) (o' := 4) ?_ ?_ rfl (by decide) (by decide) isL_nil
  · skip
    exact (fld_tags (tf := 9) mTags (flatB_is (by kernel_rfl)) (by kernel_rfl) rfl (by decide))
  exact run_end completeM (by decide)
theorem setM : SetM Tryz.prog 42 := set_m Tryz.func42 (by kernel_rfl) rfl rfl rfl (by kernel_rfl) (by kernel_rfl)
theorem newM : NewM Tryz.prog 39 (.int .i16 :: tR) [.n 0, .n (-2), .nil, .nil] := new_m (d := (fun xs => (xs.set 1 (.n (-2))))) Tryz.func39 (by kernel_rfl) rfl rfl rfl (zeroB_is (by kernel_rfl)) dR (by decide)
theorem maxM : MaxM Tryz.prog 16 4 := maxd_m (tys := .int .i16 :: tR) (ds := [.n 0, .n (-2), .nil, .nil]) (mx := ((4 : Nat) : Int)) (fmx := 40) (fnw := 39) (f := 16) (P := Tryz.prog) Tryz.func16 (by kernel_rfl) rfl rfl rfl newM (maxv_m Tryz.func40 (by kernel_rfl) rfl rfl rfl) (by decide) (by kernel_rfl) (by kernel_rfl)
theorem rd1 : ReadD Tryz.prog 1 43 tR [.n (-2), .nil, .nil] fl gR := read_d rf Tryz.func43 (by kernel_rfl) rfl rfl rfl
theorem door : BehM Tryz.prog 1 18 (behRes gR fl fun ver => apSt ((fun _ => []) :: gaOffsetForLeaderEpochRequest ver)) := behind_m (te := 5) Tryz.func18 (by kernel_rfl) rfl rfl rfl (by kernel_rfl) octT (by kernel_rfl) (by kernel_rfl) (by kernel_rfl) newM setM rd1 app
theorem plTopicPartition (ver : Int) (hv : 0 ≤ ver) (t : T) (hk : KeysOk t) : InvL gTopicPartition ver (decide (ver ≥ 4)) (gaOffsetForLeaderEpochRequestTopicPartition ver) (partW fssOffsetForLeaderEpochRequestTopicPartition ver (decide (ver ≥ 4)) t) := by
  refine inv_part (by kernel_rfl) ?_
  refine invb_cons (inv_has (has_all hv (by decide) (by decide)) invf_i32) ?_
  refine invb_cons (inv_gate (p := fun v => decide (v ≥ 2)) (has_ge (by decide)) invf_i32) ?_
  refine invb_cons (inv_has (has_all hv (by decide) (by decide)) invf_i32) ?_
  exact invb_nil (inv_tagend hk)
theorem poTopicPartition (ver : Int) (hv : 0 ≤ ver) (t : T) : 1 ≤ (partW fssOffsetForLeaderEpochRequestTopicPartition ver (decide (ver ≥ 4)) t).length := part_pos (by kernel_rfl) (body_head (has_all hv (by decide) (by decide)) (fieldW_pos (by decide)))
theorem plTopic (ver : Int) (hv : 0 ≤ ver) (t : T) (hk : KeysOk t) : InvL gTopic ver (decide (ver ≥ 4)) (gaOffsetForLeaderEpochRequestTopic ver) (partW fssOffsetForLeaderEpochRequestTopic ver (decide (ver ≥ 4)) t) := by
  refine inv_part (by kernel_rfl) ?_
  refine invb_cons (inv_has (has_all hv (by decide) (by decide)) (invf_str (by decide))) ?_
  refine invb_cons (inv_has (has_all hv (by decide) (by decide)) (invf_arr (by decide) (fun z hz => inv_el (plTopicPartition ver hv z ((KeysOk.at hk.l 1).l z hz))) (fun z => value_pos10 (poTopicPartition ver hv z)))) ?_
  exact invb_nil (inv_tagend hk)
theorem poTopic (ver : Int) (hv : 0 ≤ ver) (t : T) : 1 ≤ (partW fssOffsetForLeaderEpochRequestTopic ver (decide (ver ≥ 4)) t).length := part_pos (by kernel_rfl) (body_head (has_all hv (by decide) (by decide)) (fieldW_pos (by decide)))
theorem plR (ver : Int) (hv : 0 ≤ ver) (t : T) (hk : KeysOk t) : InvL gR ver (decide (ver ≥ 4)) (gaOffsetForLeaderEpochRequest ver) (partW fsOffsetForLeaderEpochRequest ver (decide (ver ≥ 4)) t) := by
  refine inv_part (by kernel_rfl) ?_
  refine invb_cons (inv_gate (p := fun v => decide (v ≥ 3)) (has_ge (by decide)) invf_i32) ?_
  refine invb_cons (inv_has (has_all hv (by decide) (by decide)) (invf_arr (by decide) (fun z hz => inv_el (plTopic ver hv z ((KeysOk.at hk.l 1).l z hz))) (fun z => value_pos10 (poTopic ver hv z)))) ?_
  exact invb_nil (inv_tagend hk)
def small (t : T) : Prop := KeysOk t ∧ ∀ ver flex, (partW fsOffsetForLeaderEpochRequest ver flex t).length ≤ 2147483648
theorem law : LawB Tryz.prog 1 4 small := by
  refine lawb_m (te := 5) (mx := 4) (fs := fsOffsetForLeaderEpochRequest) (enc := partW fsOffsetForLeaderEpochRequest) Tryz.func4 (by kernel_rfl) rfl rfl rfl (by kernel_rfl) octT (by kernel_rfl) (flatB_is (by kernel_rfl)) (flatB_is (by kernel_rfl)) wFit maxM (by decide) ifsOffsetForLeaderEpochRequest verM (wWrite fsOffsetForLeaderEpochRequest (by decide)) door sameM ?_
  rintro ver h0 h1 t ⟨hk, hs⟩
  refine ⟨hs _ _, ?_⟩
  rw [show (decide ((4 : Int) ≥ 0) && decide (ver ≥ 4)) = fl ver from by simp [fl]]
  exact beh_plain (plR ver h0 t hk)
end Go.Proofs.YtfapegflnipofaaGreatDoor.OffsetForLeaderEpochRequest
