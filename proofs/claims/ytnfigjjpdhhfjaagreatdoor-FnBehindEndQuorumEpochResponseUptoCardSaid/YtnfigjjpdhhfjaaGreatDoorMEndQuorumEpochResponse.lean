/- The parts of the law on EndQuorumEpochResponse. Printed by gen_msg.py. -/
import Derived.Test.YtnfigjjpdhhfjaaGreatDoorPEndQuorumEpochResponse
import Derived.Test.YtnfigjjpdhhfjaaGreatDoorCEndQuorumEpochResponse
import Derived.Test.YtnfigjjpdhhfjaaGreatDoorKqSwx
import Derived.Test.YtnfigjjpdhhfjaaGreatDoorKqP06
import Derived.Test.YtnfigjjpdhhfjaaGreatDoorKqP05
set_option linter.unusedVariables false
set_option linter.unusedSimpArgs false
namespace Go.Proofs.YtnfigjjpdhhfjaaGreatDoor.EndQuorumEpochResponse
open Go.Kq
def tTopicPartition : List Ty := [.int .i32, .int .i16, .int .i32, .int .i32, .tags]
def gTopicPartition : Rd := (rdCons (rdOne fun _ _ => gNum .i32 4) (rdCons (rdOne fun _ _ => gNum .i16 2) (rdCons (rdOne fun _ _ => gNum .i32 4) (rdCons (rdOne fun _ _ => gNum .i32 4) (rdCons rdTagsF rdSt0)))))
theorem dTopicPartition : DefM Tryz.prog 119 (tTopicPartition) id := def_skip Tryz.func119 (by kernel_rfl) (by kernel_rfl) (by kernel_rfl)
def tTopic : List Ty := [.str, .arr (.st tTopicPartition), .tags]
def gTopic : Rd := (rdCons (rdOne fun _ fl st => if fl then gCStr st else gStr st) (rdCons (rdArr (fun _ fl st => if fl then gCALen st else gALen st) gTopicPartition) (rdCons rdTagsF rdSt0)))
theorem dTopic : DefM Tryz.prog 118 (tTopic) id := def_skip Tryz.func118 (by kernel_rfl) (by kernel_rfl) (by kernel_rfl)
def tNodeEndpoint : List Ty := [.int .i32, .str, .int .u16, .tags]
def gNodeEndpoint : Rd := (rdCons (rdIf (fun v => decide (v ≥ 1)) (.n 0) (rdOne fun _ _ => gNum .i32 4)) (rdCons (rdIf (fun v => decide (v ≥ 1)) (.s []) (rdOne fun _ fl st => if fl then gCStr st else gStr st)) (rdCons (rdIf (fun v => decide (v ≥ 1)) (.n 0) (rdOne fun _ _ => gNum .u16 2)) (rdCons rdTagsF rdSt0))))
theorem dNodeEndpoint : DefM Tryz.prog 120 (tNodeEndpoint) id := def_skip Tryz.func120 (by kernel_rfl) (by kernel_rfl) (by kernel_rfl)
def tR : List Ty := [.int .i16, .arr (.st tTopic), .arr (.st tNodeEndpoint), .tags]
def gR : Rd := (rdCons (rdOne fun _ _ => gNum .i16 2) (rdCons (rdArr (fun _ fl st => if fl then gCALen st else gALen st) gTopic) (rdKn (rdArr (fun _ fl st => if fl then gCALen st else gALen st) gNodeEndpoint) (.nil))))
theorem dR : DefM Tryz.prog 73 (.int .i16 :: tR) id := def_skip Tryz.func73 (by kernel_rfl) (by kernel_rfl) (by kernel_rfl)
def fl : Int → Bool := fun v => decide (v ≥ 1)
set_option maxRecDepth 20000 in
theorem rf : ReadS Tryz.prog 1 75 tR [.n 0, .nil, .nil, .nil] fl gR := by
  refine rootS Tryz.func75 (by kernel_rfl) rfl rfl rfl ?_ dR (fun _ => rfl) readerT (by kernel_rfl) (by kernel_rfl) (by decide);refine bdyS_fl ?_ (by decide);refine RunS.cons (m := 11) (o' := 2) ?_ ?_ rfl (by decide) (by decide) (isL_cons isL_kn)
  · skip
    exact (fld_asg (asg_call mInt16 (by decide)) (by kernel_rfl) (by kernel_rfl) rfl (by decide))
  refine RunS.cons (m := 12) (o' := 3) ?_ ?_ rfl (by decide) (by decide) isL_kn
  · skip
    refine fld_arr (m' := 16) (e0 := 104) (bs := 48) okM completeM (asg_flex (u := 9) (asg_call mCompactArrayLen (by decide)) (asg_call mArrayLen (by decide)) rfl (by decide)) ?_ (by kernel_rfl) (by decide) (by kernel_rfl) (by kernel_rfl) (by kernel_rfl) (zeroB_is (z := [.string ⟨#[]⟩, .slice none 0 0, .map none]) (by kernel_rfl)) rfl rfl (by decide);refine elt_st (m' := 18) (et := 104) (z0 := [.s [], .nil, .nil]) (bs := 48) ?_ dTopic ?_ (by kernel_rfl) (by decide)
    · skip
      refine Fld.cons (m := 18) (m' := 19) (o' := 1) ?_ ?_ rfl (by decide) (by decide) (by decide)
      · skip
        exact (fld_var (fld_asg (asg_uns (asg_flex (u := 9) (asg_call mUnsafeCompactString (by decide)) (asg_call mUnsafeString (by decide)) rfl (by decide)) (asg_flex (u := 9) (asg_call mCompactString (by decide)) (asg_call mString (by decide)) rfl (by decide)) (by decide)) (by kernel_rfl) (by kernel_rfl) rfl (by decide)) (by decide))
      refine Fld.cons (m := 19) (m' := 159) (o' := 2) ?_ ?_ rfl (by decide) (by decide) (by decide)
      · skip
        refine fld_arr (m' := 23) (e0 := 106) (bs := 24) okM completeM (asg_flex (u := 9) (asg_call mCompactArrayLen (by decide)) (asg_call mArrayLen (by decide)) rfl (by decide)) ?_ (by kernel_rfl) (by decide) (by kernel_rfl) (by kernel_rfl) (by kernel_rfl) (zeroB_is (z := [.int .i32 0, .int .i16 0, .int .i32 0, .int .i32 0, .map none]) (by kernel_rfl)) rfl rfl (by decide);refine elt_st (m' := 25) (et := 106) (z0 := [.n 0, .n 0, .n 0, .n 0, .nil]) (bs := 24) ?_ dTopicPartition ?_ (by kernel_rfl) (by decide)
        · skip
          refine Fld.cons (m := 25) (m' := 26) (o' := 1) ?_ ?_ rfl (by decide) (by decide) (by decide)
          · skip
            exact (fld_asg (asg_call mInt32 (by decide)) (by kernel_rfl) (by kernel_rfl) rfl (by decide))
          refine Fld.cons (m := 26) (m' := 27) (o' := 2) ?_ ?_ rfl (by decide) (by decide) (by decide)
          · skip
            exact (fld_asg (asg_call mInt16 (by decide)) (by kernel_rfl) (by kernel_rfl) rfl (by decide))
          refine Fld.cons (m := 27) (m' := 28) (o' := 3) ?_ ?_ rfl (by decide) (by decide) (by decide)
          · skip
            exact (fld_asg (asg_call mInt32 (by decide)) (by kernel_rfl) (by kernel_rfl) rfl (by decide))
          refine Fld.cons (m := 28) (m' := 149) (o' := 4) ?_ ?_ rfl (by decide) (by decide) (by decide)
          · skip
            exact (fld_asg (asg_call mInt32 (by decide)) (by kernel_rfl) (by kernel_rfl) rfl (by decide))
          refine Fld.one ?_;exact (fld_tags (tf := 9) mTags (fBi (by kernel_rfl)) (by kernel_rfl) rfl (by decide))
        exact fun w => reps_zero tTopicPartition
      refine Fld.one ?_;exact (fld_tags (tf := 9) mTags (fBi (by kernel_rfl)) (by kernel_rfl) rfl (by decide))
    exact fun w => reps_zero tTopic
  refine RunS.kn (m := 29) (fld_kn (m1 := 30) (m' := 32) (tb' := 31) mUvarint spanM setTagM completeM readerT (by kernel_rfl) (by kernel_rfl) (by kernel_rfl) (by kernel_rfl) rfl (by kernel_rfl) (by kernel_rfl) (fld_arrT (m' := 36) (e0 := 108) (bs := 40) okM completeM (asg_flex (u := 9) (asg_call mCompactArrayLen (by decide)) (asg_call mArrayLen (by decide)) rfl (by decide)) ?_ (by kernel_rfl) (by decide) (by kernel_rfl) (by kernel_rfl) (by kernel_rfl) (zeroB_is (z := [.int .i32 0, .string ⟨#[]⟩, .int .u16 0, .map none]) (by kernel_rfl)) rfl rfl (by decide)) (by decide)) completeM (by decide);refine elt_st (m' := 38) (et := 108) (z0 := [.n 0, .s [], .n 0, .nil]) (bs := 40) ?_ dNodeEndpoint ?_ (by kernel_rfl) (by decide)
  · skip
    refine Fld.cons (m := 38) (m' := 39) (o' := 1) ?_ ?_ rfl (by decide) (by decide) (by decide)
    · skip
      exact (fld_if (fld_asg (asg_call mInt32 (by decide)) (by kernel_rfl) (by kernel_rfl) rfl (by decide)) (fun i => rfl) (by decide))
    refine Fld.cons (m := 39) (m' := 40) (o' := 2) ?_ ?_ rfl (by decide) (by decide) (by decide)
    · skip
      exact (fld_if (fld_var (fld_asg (asg_uns (asg_flex (u := 9) (asg_call mUnsafeCompactString (by decide)) (asg_call mUnsafeString (by decide)) rfl (by decide)) (asg_flex (u := 9) (asg_call mCompactString (by decide)) (asg_call mString (by decide)) rfl (by decide)) (by decide)) (by kernel_rfl) (by kernel_rfl) rfl (by decide)) (by decide)) (fun i => rfl) (by decide))
    refine Fld.cons (m := 40) (m' := 247) (o' := 3) ?_ ?_ rfl (by decide) (by decide) (by decide)
    · skip
      exact (fld_if (fld_asg (asg_call mUint16 (by decide)) (by kernel_rfl) (by kernel_rfl) rfl (by decide)) (fun i => rfl) (by decide))
    refine Fld.one ?_;exact (fld_tags (tf := 9) mTags (fBi (by kernel_rfl)) (by kernel_rfl) rfl (by decide))
  exact fun w => reps_zero tNodeEndpoint
theorem setM : SetM Tryz.prog 36 := set_m Tryz.func36 (by kernel_rfl) rfl rfl rfl (by kernel_rfl) (by kernel_rfl)
theorem newM : NewM Tryz.prog 32 (.int .i16 :: tR) [.n 0, .n 0, .nil, .nil, .nil] := new_m (d := id) Tryz.func32 (by kernel_rfl) rfl rfl rfl (zeroB_is (by kernel_rfl)) dR (by decide)
theorem maxM : MaxM Tryz.prog 14 1 := maxd_m (tys := .int .i16 :: tR) (ds := [.n 0, .n 0, .nil, .nil, .nil]) (mx := ((1 : Nat) : Int)) (fmx := 33) (fnw := 32) (f := 14) (P := Tryz.prog) Tryz.func14 (by kernel_rfl) rfl rfl rfl newM (maxv_m Tryz.func33 (by kernel_rfl) rfl rfl rfl) (by decide) (by kernel_rfl) (by kernel_rfl)
theorem rd1 : ReadDS Tryz.prog 1 37 tR [.n 0, .nil, .nil, .nil] fl gR := read_ds rf Tryz.func37 (by kernel_rfl) rfl rfl rfl
theorem door : BehSM Tryz.prog 1 16 (behRes gR fl fun ver => gRt (gaQ ver)) := behindS_m (te := 5) Tryz.func16 (by kernel_rfl) rfl rfl rfl (by kernel_rfl) octT (by kernel_rfl) (by kernel_rfl) (by kernel_rfl) newM setM rd1 app
theorem plTopicPartition (ver : Int) (hv : 0 ≤ ver) (t : T) (hk : KeysOk t) : InvL gTopicPartition ver (decide (ver ≥ 1)) (gaQTopicPartition ver) (partW fssQTopicPartition ver (decide (ver ≥ 1)) t) := by
  refine inv_part (by kernel_rfl) ?_;refine invb_cons (inv_has (has_all hv (by decide) (by decide)) invf_i32) ?_;refine invb_cons (inv_has (has_all hv (by decide) (by decide)) invf_i16) ?_;refine invb_cons (inv_has (has_all hv (by decide) (by decide)) invf_i32) ?_;refine invb_cons (inv_has (has_all hv (by decide) (by decide)) invf_i32) ?_;exact invb_nil (inv_tagend hk)
theorem poTopicPartition (ver : Int) (hv : 0 ≤ ver) (t : T) : 1 ≤ (partW fssQTopicPartition ver (decide (ver ≥ 1)) t).length := part_pos (by kernel_rfl) (body_head (has_all hv (by decide) (by decide)) (fieldW_pos (by decide)))
theorem plTopic (ver : Int) (hv : 0 ≤ ver) (t : T) (hk : KeysOk t) : InvL gTopic ver (decide (ver ≥ 1)) (gaQTopic ver) (partW fssQTopic ver (decide (ver ≥ 1)) t) := by
  refine inv_part (by kernel_rfl) ?_;refine invb_cons (inv_has (has_all hv (by decide) (by decide)) (invf_str (by decide))) ?_;refine invb_cons (inv_has (has_all hv (by decide) (by decide)) (invf_arr (by decide) (fun z hz => inv_el (plTopicPartition ver hv z ((KeysOk.at hk.l 1).l z hz))) (fun z => value_pos10 (poTopicPartition ver hv z)))) ?_;exact invb_nil (inv_tagend hk)
theorem poTopic (ver : Int) (hv : 0 ≤ ver) (t : T) : 1 ≤ (partW fssQTopic ver (decide (ver ≥ 1)) t).length := part_pos (by kernel_rfl) (body_head (has_all hv (by decide) (by decide)) (fieldW_pos (by decide)))
theorem plNodeEndpoint (ver : Int) (hv : 0 ≤ ver) (t : T) (hk : KeysOk t) : InvL gNodeEndpoint ver (decide (ver ≥ 1)) (gaQNodeEndpoint ver) (partW fssQNodeEndpoint ver (decide (ver ≥ 1)) t) := by
  refine inv_part (by kernel_rfl) ?_;refine invb_cons (inv_gate (p := fun v => decide (v ≥ 1)) (has_ge (by decide)) invf_i32) ?_;refine invb_cons (inv_gate (p := fun v => decide (v ≥ 1)) (has_ge (by decide)) (invf_str (by decide))) ?_;refine invb_cons (inv_gate (p := fun v => decide (v ≥ 1)) (has_ge (by decide)) invf_u16) ?_;exact invb_nil (inv_tagend hk)
theorem poNodeEndpoint (ver : Int) (hv : 0 ≤ ver) (t : T) (hfl : (decide (ver ≥ 1)) = true) : 1 ≤ (partW fssQNodeEndpoint ver (decide (ver ≥ 1)) t).length := part_posF (by kernel_rfl) hfl
theorem plR (ver : Int) (hv : 0 ≤ ver) (t : T) (hk : KeysOk t) (hlen : (decide (ver ≥ 1)) = true → (partW fsQ ver (decide (ver ≥ 1)) t).length < 4294967296) : InvG gR ver (decide (ver ≥ 1)) (gaQ ver) (partW fsQ ver (decide (ver ≥ 1)) t) := by
  refine inv_partK (by decide) ?_;refine invk_cons (by decide) (inv_has (has_all hv (by decide) (by decide)) invf_i16) ?_;refine invk_cons (by decide) (inv_has (has_all hv (by decide) (by decide)) (invf_arr (by decide) (fun z hz => inv_el (plTopic ver hv z ((KeysOk.at hk.l 1).l z hz))) (fun z => value_pos10 (poTopic ver hv z)))) ?_;refine invk_end rfl ?_;refine inv_knend (a := fun x => (if decide (ver ≥ 1) then apCLen x.items.length else apLen x.items.length) ++ (x.items.map (apSt (gaQNodeEndpoint ver))).flatten) (by decide) hk hlen rfl (fun hfl => ?_);rw [fsQ, knL_skip (by decide), knL_skip (by decide), knL_one rfl];exact kn_arr (by decide) (fun z hz => inv_el (plNodeEndpoint ver hv z ((KeysOk.at hk.l 2).l z hz))) (fun z => value_pos10 (poNodeEndpoint ver hv z hfl)) hfl
def small (t : T) : Prop := KeysOk t ∧ ∀ ver flex, (partW fsQ ver flex t).length ≤ 2147483648
theorem law : LawB Tryz.prog 1 4 small := by
  refine lawbs_m (te := 5) (mx := 1) (fs := fsQ) (enc := partW fsQ) Tryz.func4 (by kernel_rfl) rfl rfl rfl (by kernel_rfl) octT (by kernel_rfl) (fBi (by kernel_rfl)) (fBi (by kernel_rfl)) wFit maxM (by decide) ifsQ verM (wWriteK fsQ (by decide)) door sameM ?_;rintro ver h0 h1 t ⟨hk, hs⟩;refine ⟨hs _ _, ?_⟩;rw [show (decide ((1 : Int) ≥ 0) && decide (ver ≥ 1)) = fl ver from by simp [fl]];exact beh_plainG (plR ver h0 t hk (fun _ => by have := hs ver (decide (ver ≥ 1)); omega))
end Go.Proofs.YtnfigjjpdhhfjaaGreatDoor.EndQuorumEpochResponse
