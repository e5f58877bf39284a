/- The parts of the law on ListPartitionReassignmentsRequest. Printed by gen_msg.py. -/
import Derived.Test.YthcgbekkojofpaaGreatDoorPListPartitionReassignmentsRequest
import Derived.Test.YthcgbekkojofpaaGreatDoorCListPartitionReassignmentsRequest
import Derived.Test.YthcgbekkojofpaaGreatDoorKqCoF
import Derived.Test.YthcgbekkojofpaaGreatDoorKqP06
set_option linter.unusedVariables false
set_option linter.unusedSimpArgs false
namespace Go.Proofs.YthcgbekkojofpaaGreatDoor.ListPartitionReassignmentsRequest
open Go.Kq
def tTopic : List Ty := [.str, .arr (.int .i32), .tags]
def gTopic : Rd := (rdCons (rdOne fun _ fl st => if fl then gCStr st else gStr st) (rdCons (rdArr (fun _ fl st => if fl then gCALen st else gALen st) (rdOne fun _ _ => gNum .i32 4)) (rdCons rdTagsF rdSt0)))
theorem dTopic : DefM Tryz.prog 88 (tTopic) id := def_skip Tryz.func88 (by kernel_rfl) (by kernel_rfl) (by kernel_rfl)
def tR : List Ty := [.int .i32, .arr (.st tTopic), .tags]
def gR : Rd := (rdCons (rdOne fun _ _ => gNum .i32 4) (rdCons (rdArrN (0) (fun _ fl st => if fl then gCALen st else gALen st) gTopic) (rdCons rdTagsF rdSt0)))
theorem dR : DefM Tryz.prog 62 (.int .i16 :: tR) (fun xs => (xs.set 1 (.n (60000)))) := def_sets (N := 5) Tryz.func62 (by kernel_rfl) rfl rfl (by decide) rfl (DRun.one (i := 1) (ty := .int .i32) (x := .n (60000)) (by kernel_rfl) (by kernel_rfl) rfl rfl rfl rfl (fun w => ⟨_, rfl, rfl, by decide, by decide⟩) (by decide))
def fl : Int → Bool := fun v => decide (v ≥ 0)
set_option maxRecDepth 20000 in
theorem rf : ReadM Tryz.prog 0 63 tR [.n (60000), .nil, .nil] fl gR := by
  refine root Tryz.func63 (by kernel_rfl) rfl rfl rfl ?_ dR (fun _ => rfl) readerT (by kernel_rfl) (by kernel_rfl) (isL_cons (isL_cons (isL_cons isL_nil))) (by decide);refine bdy_fl ?_ (by decide);refine Run.cons (m := 11) (o' := 2) ?_ ?_ rfl (by decide) (by decide) (isL_cons (isL_cons isL_nil))
  · skip
    exact (fld_asg (asg_call mInt32 (by decide)) (by kernel_rfl) (by kernel_rfl) rfl (by decide))
  refine Run.cons (m := 12) (o' := 3) ?_ ?_ rfl (by decide) (by decide) (isL_cons isL_nil)
  · skip
    refine fld_arrN (m' := 16) (e0 := 127) (bs := 48) okM completeM (asg_flex (u := 9) (asg_call mCompactArrayLen (by decide)) (asg_call mArrayLen (by decide)) rfl (by decide)) ?_ (by kernel_rfl) (by decide) (by kernel_rfl) (by kernel_rfl) (by kernel_rfl) (zeroB_is (z := [.string ⟨#[]⟩, .slice none 0 0, .map none]) (by kernel_rfl)) rfl rfl (by decide) (by decide);refine elt_st (m' := 18) (et := 127) (z0 := [.s [], .nil, .nil]) (bs := 48) ?_ dTopic ?_ (by kernel_rfl) (by decide)
    · skip
      refine Fld.cons (m := 18) (m' := 19) (o' := 1) ?_ ?_ rfl (by decide) (by decide) (by decide)
      · skip
        exact (fld_var (fld_asg (asg_uns (asg_flex (u := 9) (asg_call mUnsafeCompactString (by decide)) (asg_call mUnsafeString (by decide)) rfl (by decide)) (asg_flex (u := 9) (asg_call mCompactString (by decide)) (asg_call mString (by decide)) rfl (by decide)) (by decide)) (by kernel_rfl) (by kernel_rfl) rfl (by decide)) (by decide))
      refine Fld.cons (m := 19) (m' := 122) (o' := 2) ?_ ?_ rfl (by decide) (by decide) (by decide)
      · skip
        refine fld_arr (m' := 23) (e0 := 21) (bs := 4) okM completeM (asg_flex (u := 9) (asg_call mCompactArrayLen (by decide)) (asg_call mArrayLen (by decide)) rfl (by decide)) ?_ (by kernel_rfl) (by decide) (by kernel_rfl) (by kernel_rfl) (by kernel_rfl) (zeroB_is (z := [.int .i32 0]) (by kernel_rfl)) rfl rfl (by decide);exact elt_one (m' := 23) (et := 21) (bs := 4) (asg_call mInt32 (by decide)) (by kernel_rfl) (by kernel_rfl) rfl (by decide)
      refine Fld.one ?_;exact (fld_tags (tf := 9) mTags (fBi (by kernel_rfl)) (by kernel_rfl) rfl (by decide))
    exact fun w => reps_zero tTopic
  refine Run.cons (m := 132) (o' := 4) ?_ ?_ rfl (by decide) (by decide) isL_nil
  · skip
    exact (fld_tags (tf := 9) mTags (fBi (by kernel_rfl)) (by kernel_rfl) rfl (by decide))
  exact run_end completeM (by decide)
theorem setM : SetM Tryz.prog 37 := set_m Tryz.func37 (by kernel_rfl) rfl rfl rfl (by kernel_rfl) (by kernel_rfl)
theorem newM : NewM Tryz.prog 34 (.int .i16 :: tR) [.n 0, .n (60000), .nil, .nil] := new_m (d := (fun xs => (xs.set 1 (.n (60000))))) Tryz.func34 (by kernel_rfl) rfl rfl rfl (zeroB_is (by kernel_rfl)) dR (by decide)
theorem maxM : MaxM Tryz.prog 17 0 := maxd_m (tys := .int .i16 :: tR) (ds := [.n 0, .n (60000), .nil, .nil]) (mx := ((0 : Nat) : Int)) (fmx := 35) (fnw := 34) (f := 17) (P := Tryz.prog) Tryz.func17 (by kernel_rfl) rfl rfl rfl newM (maxv_m Tryz.func35 (by kernel_rfl) rfl rfl rfl) (by decide) (by kernel_rfl) (by kernel_rfl)
theorem rd1 : ReadD Tryz.prog 0 38 tR [.n (60000), .nil, .nil] fl gR := read_d rf Tryz.func38 (by kernel_rfl) rfl rfl rfl
theorem keyM : KeyM Tryz.prog 171 46 := key_m Tryz.func171 (by kernel_rfl) rfl rfl rfl
theorem getvM : GetVM Tryz.prog 169 := getv_m Tryz.func169 (by kernel_rfl) rfl rfl rfl (by kernel_rfl) (by kernel_rfl)
theorem flxM : FlxM Tryz.prog 170 fl := flx_m (kx := 0) Tryz.func170 (by kernel_rfl) rfl rfl rfl (by kernel_rfl) (by kernel_rfl)
theorem reqM : ReqM Tryz.prog 58 tR (fun ver => apSt ((fun _ => []) :: gaQ ver)) 46 fl := ⟨⟨168, (by kernel_rfl), app⟩, ⟨171, (by kernel_rfl), keyM⟩, ⟨169, (by kernel_rfl), getvM⟩, ⟨170, (by kernel_rfl), flxM⟩⟩
theorem appReq : AppReqM Tryz.prog 61 58 tR (fun ver => apSt ((fun _ => []) :: gaQ ver)) 46 fl := appreq_m (te := 5) Tryz.func61 (by kernel_rfl) rfl rfl rfl (by kernel_rfl) octT (by kernel_rfl) (by kernel_rfl) (by kernel_rfl) (by kernel_rfl) (by kernel_rfl) (by kernel_rfl) (by kernel_rfl) (by decide) (by decide) reqM sI16 sI32 oI32 sNStr
theorem framedM : FramedM Tryz.prog 32 58 tR (fun ver => apSt ((fun _ => []) :: gaQ ver)) 46 fl := framed_m (te := 89) (tb := 16) Tryz.func32 (by kernel_rfl) rfl rfl rfl (fBi (by kernel_rfl)) (by kernel_rfl) (by kernel_rfl) (by kernel_rfl) newFM clientM appReq
theorem door : FrxM Tryz.prog 0 19 (behRes gR fl (fun ver => apSt ((fun _ => []) :: gaQ ver))) 46 fl := framex_m (te := 5) Tryz.func19 (by kernel_rfl) rfl rfl rfl (by kernel_rfl) octT (by kernel_rfl) (by kernel_rfl) (by kernel_rfl) (fBi (by kernel_rfl)) (by kernel_rfl) newM setM rd1 framedM
theorem plTopic (ver : Int) (hv : 0 ≤ ver) (t : T) (hk : KeysOk t) : InvL gTopic ver (decide (ver ≥ 0)) (gaQTopic ver) (partW fssQTopic ver (decide (ver ≥ 0)) t) := by
  refine inv_part (by kernel_rfl) ?_;refine invb_cons (inv_has (has_all hv (by decide) (by decide)) (invf_str (by decide))) ?_;refine invb_cons (inv_has (has_all hv (by decide) (by decide)) (invf_arr (by decide) (fun z hz => inv_el_i32) (fun z => value_pos (by decide)))) ?_;exact invb_nil (inv_tagend hk)
theorem poTopic (ver : Int) (hv : 0 ≤ ver) (t : T) : 1 ≤ (partW fssQTopic ver (decide (ver ≥ 0)) t).length := part_pos (by kernel_rfl) (body_head (has_all hv (by decide) (by decide)) (fieldW_pos (by decide)))
theorem plR (ver : Int) (hv : 0 ≤ ver) (t : T) (hk : KeysOk t) : InvL gR ver (decide (ver ≥ 0)) (gaQ ver) (partW fsQ ver (decide (ver ≥ 0)) t) := by
  refine inv_part (by kernel_rfl) ?_;refine invb_cons (inv_has (has_all hv (by decide) (by decide)) invf_i32) ?_;refine invb_cons (inv_has (has_all hv (by decide) (by decide)) (invf_arrN hv (by decide) (fun z hz => inv_el (plTopic ver hv z ((KeysOk.at hk.l 1).l z hz))) (fun z => value_pos10 (poTopic ver hv z)))) ?_;exact invb_nil (inv_tagend hk)
def small (t : T) : Prop := KeysOk t ∧ ∀ ver flex, (partW fsQ ver flex t).length ≤ 2147483648
theorem law : LawF Tryz.prog 0 4 small := by
  refine lawf_m (mx := 0) (fs := fsQ) (enc := partW fsQ) Tryz.func4 (by kernel_rfl) rfl rfl rfl (fBi (by kernel_rfl)) (fBi (by kernel_rfl)) (fBi (by kernel_rfl)) (by kernel_rfl) (by kernel_rfl) (by kernel_rfl) (by kernel_rfl) (by kernel_rfl) (by kernel_rfl) fit4 wFit maxM (by decide) ifsQ verM (wWrite fsQ (by decide)) door flexM frameS sameM (fun ver _ _ => by simp [fl]) ?_;rintro ver h0 h1 t ⟨hk, hs⟩;refine ⟨hs _ _, ?_⟩;rw [show (decide ((0 : Int) ≥ 0) && decide (ver ≥ 0)) = fl ver from by simp [fl]];exact beh_plain (plR ver h0 t hk)
end Go.Proofs.YthcgbekkojofpaaGreatDoor.ListPartitionReassignmentsRequest
