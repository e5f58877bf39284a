/- The parts of the law on DeleteTopicsResponse. Printed by gen_msg.py. -/
import Derived.Test.YtokkeelmccdcaaaGreatDoorPDeleteTopicsResponse
import Derived.Test.YtokkeelmccdcaaaGreatDoorCDeleteTopicsResponse
import Derived.Test.YtokkeelmccdcaaaGreatDoorKqP06
set_option linter.unusedVariables false
set_option linter.unusedSimpArgs false
namespace Go.Proofs.YtokkeelmccdcaaaGreatDoor.DeleteTopicsResponse
open Go.Kq
def tTopic : List Ty := [.pstr, .uuid, .int .i16, .pstr, .tags]
def gTopic : Rd := (rdCons (rdOne fun v fl st => if decide (v < 6) then (if fl then gCStr st else gStr st) else (if fl then gCNStr st else gNStr st)) (rdCons (rdIf (fun v => decide (v ≥ 6)) (.s uuid0) (rdOne fun _ _ => gUuid)) (rdCons (rdOne fun _ _ => gNum .i16 2) (rdCons (rdIf (fun v => decide (v ≥ 5)) (.nil) (rdOne fun _ fl st => if fl then gCNStr st else gNStr st)) (rdCons rdTagsF rdSt0)))))
theorem dTopic : DefM Tryz.prog 117 (tTopic) id := def_skip Tryz.func117 (by kernel_rfl) (by kernel_rfl) (by kernel_rfl)
def tR : List Ty := [.int .i32, .arr (.st tTopic), .tags]
def gR : Rd := (rdCons (rdIf (fun v => decide (v ≥ 1)) (.n 0) (rdOne fun _ _ => gNum .i32 4)) (rdCons (rdArr (fun _ fl st => if fl then gCALen st else gALen st) gTopic) (rdCons rdTagsF rdSt0)))
theorem dR : DefM Tryz.prog 71 (.int .i16 :: tR) id := def_skip Tryz.func71 (by kernel_rfl) (by kernel_rfl) (by kernel_rfl)
def fl : Int → Bool := fun v => decide (v ≥ 4)
set_option maxRecDepth 20000 in
theorem rf : ReadM Tryz.prog 1 72 tR [.n 0, .nil, .nil] fl gR := by
  refine root Tryz.func72 (by kernel_rfl) rfl rfl rfl ?_ dR (fun _ => rfl) readerT (by kernel_rfl) (by kernel_rfl) (isL_cons (isL_cons (isL_cons isL_nil))) (by decide);refine bdy_fl ?_ (by decide);refine Run.cons (m := 11) (o' := 2) ?_ ?_ rfl (by decide) (by decide) (isL_cons (isL_cons isL_nil))
  · skip
    exact (fld_if (fld_asg (asg_call mInt32 (by decide)) (by kernel_rfl) (by kernel_rfl) rfl (by decide)) (fun i => rfl) (by decide))
  refine Run.cons (m := 12) (o' := 3) ?_ ?_ rfl (by decide) (by decide) (isL_cons isL_nil)
  · skip
    refine fld_arr (m' := 16) (e0 := 122) (bs := 48) okM completeM (asg_flex (u := 9) (asg_call mCompactArrayLen (by decide)) (asg_call mArrayLen (by decide)) rfl (by decide)) ?_ (by kernel_rfl) (by decide) (by kernel_rfl) (by kernel_rfl) (by kernel_rfl) (zeroB_is (z := [.pointer none, .int .u8 0, .int .u8 0, .int .u8 0, .int .u8 0, .int .u8 0, .int .u8 0, .int .u8 0, .int .u8 0, .int .u8 0, .int .u8 0, .int .u8 0, .int .u8 0, .int .u8 0, .int .u8 0, .int .u8 0, .int .u8 0, .int .i16 0, .pointer none, .map none]) (by kernel_rfl)) rfl rfl (by decide);refine elt_st (m' := 18) (et := 122) (z0 := [.nil, .s uuid0, .n 0, .nil, .nil]) (bs := 48) ?_ dTopic ?_ (by kernel_rfl) (by decide)
    · skip
      refine Fld.cons (m := 18) (m' := 20) (o' := 1) ?_ ?_ rfl (by decide) (by decide) (by decide)
      · skip
        exact (fld_var (fld_asg (asg_old (asg_box (m' := 20) (asgb_flex (u := 9) (asgb_uns (asgb_call mUnsafeCompactString (by kernel_rfl) (by decide)) (asgb_call mCompactString (by kernel_rfl) (by decide)) (by decide)) (asgb_uns (asgb_call mUnsafeString (by kernel_rfl) (by decide)) (asgb_call mString (by kernel_rfl) (by decide)) (by decide)) rfl (by decide)) (zeroB_is (z := [.string ⟨#[]⟩]) (by kernel_rfl)) rfl (by decide)) (asg_flex (u := 9) (asg_uns (asg_call mUnsafeCompactNullableString (by decide)) (asg_call mCompactNullableString (by decide)) (by decide)) (asg_uns (asg_call mUnsafeNullableString (by decide)) (asg_call mNullableString (by decide)) (by decide)) rfl (by decide)) (fun i => rfl) (by decide)) (by kernel_rfl) (by kernel_rfl) rfl (by decide)) (by decide))
      refine Fld.cons (m := 20) (m' := 21) (o' := 17) ?_ ?_ rfl (by decide) (by decide) (by decide)
      · skip
        exact (fld_if (fld_uuid mUuid uuidT (by kernel_rfl) (by decide)) (fun i => rfl) (by decide))
      refine Fld.cons (m := 21) (m' := 22) (o' := 18) ?_ ?_ rfl (by decide) (by decide) (by decide)
      · skip
        exact (fld_asg (asg_call mInt16 (by decide)) (by kernel_rfl) (by kernel_rfl) rfl (by decide))
      refine Fld.cons (m := 22) (m' := 117) (o' := 19) ?_ ?_ rfl (by decide) (by decide) (by decide)
      · skip
        exact (fld_if (fld_var (fld_asg (asg_flex (u := 9) (asg_uns (asg_call mUnsafeCompactNullableString (by decide)) (asg_call mCompactNullableString (by decide)) (by decide)) (asg_uns (asg_call mUnsafeNullableString (by decide)) (asg_call mNullableString (by decide)) (by decide)) rfl (by decide)) (by kernel_rfl) (by kernel_rfl) rfl (by decide)) (by decide)) (fun i => rfl) (by decide))
      refine Fld.one ?_;exact (fld_tags (tf := 9) mTags (fBi (by kernel_rfl)) (by kernel_rfl) rfl (by decide))
    exact fun w => reps_zero tTopic
  refine Run.cons (m := 127) (o' := 4) ?_ ?_ rfl (by decide) (by decide) isL_nil
  · skip
    exact (fld_tags (tf := 9) mTags (fBi (by kernel_rfl)) (by kernel_rfl) rfl (by decide))
  exact run_end completeM (by decide)
theorem setM : SetM Tryz.prog 33 := set_m Tryz.func33 (by kernel_rfl) rfl rfl rfl (by kernel_rfl) (by kernel_rfl)
theorem newM : NewM Tryz.prog 30 (.int .i16 :: tR) [.n 0, .n 0, .nil, .nil] := new_m (d := id) Tryz.func30 (by kernel_rfl) rfl rfl rfl (zeroB_is (by kernel_rfl)) dR (by decide)
theorem maxM : MaxM Tryz.prog 13 6 := maxd_m (tys := .int .i16 :: tR) (ds := [.n 0, .n 0, .nil, .nil]) (mx := ((6 : Nat) : Int)) (fmx := 31) (fnw := 30) (f := 13) (P := Tryz.prog) Tryz.func13 (by kernel_rfl) rfl rfl rfl newM (maxv_m Tryz.func31 (by kernel_rfl) rfl rfl rfl) (by decide) (by kernel_rfl) (by kernel_rfl)
theorem rd1 : ReadD Tryz.prog 1 34 tR [.n 0, .nil, .nil] fl gR := read_d rf Tryz.func34 (by kernel_rfl) rfl rfl rfl
theorem door : BehM Tryz.prog 1 15 (behRes gR fl fun ver => apSt ((fun _ => []) :: gaQ ver)) := behind_m (te := 5) Tryz.func15 (by kernel_rfl) rfl rfl rfl (by kernel_rfl) octT (by kernel_rfl) (by kernel_rfl) (by kernel_rfl) newM setM rd1 app
theorem plTopic (ver : Int) (hv : 0 ≤ ver) (t : T) (hk : KeysOk t) : InvL gTopic ver (decide (ver ≥ 4)) (gaQTopic ver) (partW fssQTopic ver (decide (ver ≥ 4)) t) := by
  refine inv_part (by kernel_rfl) ?_;refine invb_cons (inv_has (has_all hv (by decide) (by decide)) (invf_old (j := 6) rfl)) ?_;refine invb_cons (inv_gate (p := fun v => decide (v ≥ 6)) (has_ge (by decide)) invf_uuid) ?_;refine invb_cons (inv_has (has_all hv (by decide) (by decide)) invf_i16) ?_;refine invb_cons (inv_gate (p := fun v => decide (v ≥ 5)) (has_ge (by decide)) invf_pstr) ?_;exact invb_nil (inv_tagend hk)
theorem poTopic (ver : Int) (hv : 0 ≤ ver) (t : T) : 1 ≤ (partW fssQTopic ver (decide (ver ≥ 4)) t).length := part_pos (by kernel_rfl) (body_head (has_all hv (by decide) (by decide)) (fieldW_pos (by decide)))
theorem plR (ver : Int) (hv : 0 ≤ ver) (t : T) (hk : KeysOk t) : InvL gR ver (decide (ver ≥ 4)) (gaQ ver) (partW fsQ ver (decide (ver ≥ 4)) t) := by
  refine inv_part (by kernel_rfl) ?_;refine invb_cons (inv_gate (p := fun v => decide (v ≥ 1)) (has_ge (by decide)) invf_i32) ?_;refine invb_cons (inv_has (has_all hv (by decide) (by decide)) (invf_arr (by decide) (fun z hz => inv_el (plTopic ver hv z ((KeysOk.at hk.l 1).l z hz))) (fun z => value_pos10 (poTopic ver hv z)))) ?_;exact invb_nil (inv_tagend hk)
def small (t : T) : Prop := KeysOk t ∧ ∀ ver flex, (partW fsQ ver flex t).length ≤ 2147483648
theorem law : LawB Tryz.prog 1 4 small := by
  refine lawb_m (te := 5) (mx := 6) (fs := fsQ) (enc := partW fsQ) Tryz.func4 (by kernel_rfl) rfl rfl rfl (by kernel_rfl) octT (by kernel_rfl) (fBi (by kernel_rfl)) (fBi (by kernel_rfl)) wFit maxM (by decide) ifsQ verM (wWrite fsQ (by decide)) door sameM ?_;rintro ver h0 h1 t ⟨hk, hs⟩;refine ⟨hs _ _, ?_⟩;rw [show (decide ((4 : Int) ≥ 0) && decide (ver ≥ 4)) = fl ver from by simp [fl]];exact beh_plain (plR ver h0 t hk)
end Go.Proofs.YtokkeelmccdcaaaGreatDoor.DeleteTopicsResponse
