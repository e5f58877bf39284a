/- The parts of the law on ShareGroupHeartbeatRequest. Printed by gen_msg.py. -/
import Derived.Test.YthcgbekkojofpaaGreatDoorPShareGroupHeartbeatRequest
import Derived.Test.YthcgbekkojofpaaGreatDoorCShareGroupHeartbeatRequest
import Derived.Test.YthcgbekkojofpaaGreatDoorKqCoF
import Derived.Test.YthcgbekkojofpaaGreatDoorKqP06
set_option linter.unusedVariables false
set_option linter.unusedSimpArgs false
namespace Go.Proofs.YthcgbekkojofpaaGreatDoor.ShareGroupHeartbeatRequest
open Go.Kq
def tR : List Ty := [.str, .str, .int .i32, .pstr, .arr .str, .tags]
def gR : Rd := (rdCons (rdOne fun _ fl st => if fl then gCStr st else gStr st) (rdCons (rdOne fun _ fl st => if fl then gCStr st else gStr st) (rdCons (rdOne fun _ _ => gNum .i32 4) (rdCons (rdOne fun _ fl st => if fl then gCNStr st else gNStr st) (rdCons (rdArrN (0) (fun _ fl st => if fl then gCALen st else gALen st) (rdOne fun _ fl st => if fl then gCStr st else gStr st)) (rdCons rdTagsF rdSt0))))))
theorem dR : DefM Tryz.prog 64 (.int .i16 :: tR) id := def_skip Tryz.func64 (by kernel_rfl) (by kernel_rfl) (by kernel_rfl)
def fl : Int → Bool := fun v => decide (v ≥ 0)
set_option maxRecDepth 20000 in
theorem rf : ReadM Tryz.prog 0 65 tR [.s [], .s [], .n 0, .nil, .nil, .nil] fl gR := by
  refine root Tryz.func65 (by kernel_rfl) rfl rfl rfl ?_ dR (fun _ => rfl) readerT (by kernel_rfl) (by kernel_rfl) (isL_cons (isL_cons (isL_cons (isL_cons (isL_cons (isL_cons isL_nil)))))) (by decide);refine bdy_fl ?_ (by decide);refine Run.cons (m := 11) (o' := 2) ?_ ?_ rfl (by decide) (by decide) (isL_cons (isL_cons (isL_cons (isL_cons (isL_cons isL_nil)))))
  · skip
    exact (fld_var (fld_asg (asg_uns (asg_flex (u := 9) (asg_call mUnsafeCompactString (by decide)) (asg_call mUnsafeString (by decide)) rfl (by decide)) (asg_flex (u := 9) (asg_call mCompactString (by decide)) (asg_call mString (by decide)) rfl (by decide)) (by decide)) (by kernel_rfl) (by kernel_rfl) rfl (by decide)) (by decide))
  refine Run.cons (m := 12) (o' := 3) ?_ ?_ rfl (by decide) (by decide) (isL_cons (isL_cons (isL_cons (isL_cons isL_nil))))
  · skip
    exact (fld_var (fld_asg (asg_uns (asg_flex (u := 9) (asg_call mUnsafeCompactString (by decide)) (asg_call mUnsafeString (by decide)) rfl (by decide)) (asg_flex (u := 9) (asg_call mCompactString (by decide)) (asg_call mString (by decide)) rfl (by decide)) (by decide)) (by kernel_rfl) (by kernel_rfl) rfl (by decide)) (by decide))
  refine Run.cons (m := 13) (o' := 4) ?_ ?_ rfl (by decide) (by decide) (isL_cons (isL_cons (isL_cons isL_nil)))
  · skip
    exact (fld_asg (asg_call mInt32 (by decide)) (by kernel_rfl) (by kernel_rfl) rfl (by decide))
  refine Run.cons (m := 14) (o' := 5) ?_ ?_ rfl (by decide) (by decide) (isL_cons (isL_cons isL_nil))
  · skip
    exact (fld_var (fld_asg (asg_flex (u := 9) (asg_uns (asg_call mUnsafeCompactNullableString (by decide)) (asg_call mCompactNullableString (by decide)) (by decide)) (asg_uns (asg_call mUnsafeNullableString (by decide)) (asg_call mNullableString (by decide)) (by decide)) rfl (by decide)) (by kernel_rfl) (by kernel_rfl) rfl (by decide)) (by decide))
  refine Run.cons (m := 15) (o' := 6) ?_ ?_ rfl (by decide) (by decide) (isL_cons isL_nil)
  · skip
    refine fld_arrN (m' := 19) (e0 := 9) (bs := 16) okM completeM (asg_flex (u := 9) (asg_call mCompactArrayLen (by decide)) (asg_call mArrayLen (by decide)) rfl (by decide)) ?_ (by kernel_rfl) (by decide) (by kernel_rfl) (by kernel_rfl) (by kernel_rfl) (zeroB_is (z := [.string ⟨#[]⟩]) (by kernel_rfl)) rfl rfl (by decide) (by decide);exact elt_var (elt_one (m' := 19) (et := 9) (bs := 16) (asg_uns (asg_flex (u := 9) (asg_call mUnsafeCompactString (by decide)) (asg_call mUnsafeString (by decide)) rfl (by decide)) (asg_flex (u := 9) (asg_call mCompactString (by decide)) (asg_call mString (by decide)) rfl (by decide)) (by decide)) (by kernel_rfl) (by kernel_rfl) rfl (by decide)) (by decide)
  refine Run.cons (m := 117) (o' := 7) ?_ ?_ rfl (by decide) (by decide) isL_nil
  · skip
    exact (fld_tags (tf := 9) mTags (flatB_is (by kernel_rfl)) (by kernel_rfl) rfl (by decide))
  exact run_end completeM (by decide)
theorem setM : SetM Tryz.prog 41 := set_m Tryz.func41 (by kernel_rfl) rfl rfl rfl (by kernel_rfl) (by kernel_rfl)
theorem newM : NewM Tryz.prog 39 (.int .i16 :: tR) [.n 0, .s [], .s [], .n 0, .nil, .nil, .nil] := new_m (d := id) Tryz.func39 (by kernel_rfl) rfl rfl rfl (zeroB_is (by kernel_rfl)) dR (by decide)
theorem maxM : MaxM Tryz.prog 20 1 := maxd_m (tys := .int .i16 :: tR) (ds := [.n 0, .s [], .s [], .n 0, .nil, .nil, .nil]) (mx := ((1 : Nat) : Int)) (fmx := 40) (fnw := 39) (f := 20) (P := Tryz.prog) Tryz.func20 (by kernel_rfl) rfl rfl rfl newM (maxv_m Tryz.func40 (by kernel_rfl) rfl rfl rfl) (by decide) (by kernel_rfl) (by kernel_rfl)
theorem rd1 : ReadD Tryz.prog 0 42 tR [.s [], .s [], .n 0, .nil, .nil, .nil] fl gR := read_d rf Tryz.func42 (by kernel_rfl) rfl rfl rfl
theorem keyM : KeyM Tryz.prog 177 76 := key_m Tryz.func177 (by kernel_rfl) rfl rfl rfl
theorem getvM : GetVM Tryz.prog 175 := getv_m Tryz.func175 (by kernel_rfl) rfl rfl rfl (by kernel_rfl) (by kernel_rfl)
theorem flxM : FlxM Tryz.prog 176 fl := flx_m (kx := 0) Tryz.func176 (by kernel_rfl) rfl rfl rfl (by kernel_rfl) (by kernel_rfl)
theorem reqM : ReqM Tryz.prog 61 tR (fun ver => apSt ((fun _ => []) :: gaQ ver)) 76 fl := ⟨⟨174, (by kernel_rfl), app⟩, ⟨177, (by kernel_rfl), keyM⟩, ⟨175, (by kernel_rfl), getvM⟩, ⟨176, (by kernel_rfl), flxM⟩⟩
theorem appReq : AppReqM Tryz.prog 61 61 tR (fun ver => apSt ((fun _ => []) :: gaQ ver)) 76 fl := appreq_m (te := 5) Tryz.func61 (by kernel_rfl) rfl rfl rfl (by kernel_rfl) octT (by kernel_rfl) (by kernel_rfl) (by kernel_rfl) (by kernel_rfl) (by kernel_rfl) (by kernel_rfl) (by kernel_rfl) (by decide) (by decide) reqM sI16 sI32 oI32 sNStr
theorem framedM : FramedM Tryz.prog 32 61 tR (fun ver => apSt ((fun _ => []) :: gaQ ver)) 76 fl := framed_m (te := 89) (tb := 16) Tryz.func32 (by kernel_rfl) rfl rfl rfl (flatB_is (by kernel_rfl)) (by kernel_rfl) (by kernel_rfl) (by kernel_rfl) newFM clientM appReq
theorem door : FrxM Tryz.prog 0 22 (behRes gR fl (fun ver => apSt ((fun _ => []) :: gaQ ver))) 76 fl := framex_m (te := 5) Tryz.func22 (by kernel_rfl) rfl rfl rfl (by kernel_rfl) octT (by kernel_rfl) (by kernel_rfl) (by kernel_rfl) (flatB_is (by kernel_rfl)) (by kernel_rfl) newM setM rd1 framedM
theorem plR (ver : Int) (hv : 0 ≤ ver) (t : T) (hk : KeysOk t) : InvL gR ver (decide (ver ≥ 0)) (gaQ ver) (partW fsQ ver (decide (ver ≥ 0)) t) := by
  refine inv_part (by kernel_rfl) ?_;refine invb_cons (inv_has (has_all hv (by decide) (by decide)) (invf_str (by decide))) ?_;refine invb_cons (inv_has (has_all hv (by decide) (by decide)) (invf_str (by decide))) ?_;refine invb_cons (inv_has (has_all hv (by decide) (by decide)) invf_i32) ?_;refine invb_cons (inv_has (has_all hv (by decide) (by decide)) invf_pstr) ?_;refine invb_cons (inv_has (has_all hv (by decide) (by decide)) (invf_arrN hv (by decide) (fun z hz => inv_el_str) (fun z => value_pos (by decide)))) ?_;exact invb_nil (inv_tagend hk)
def small (t : T) : Prop := KeysOk t ∧ ∀ ver flex, (partW fsQ ver flex t).length ≤ 2147483648
theorem law : LawF Tryz.prog 0 5 small := by
  refine lawf_m (mx := 1) (fs := fsQ) (enc := partW fsQ) Tryz.func5 (by kernel_rfl) rfl rfl rfl (flatB_is (by kernel_rfl)) (flatB_is (by kernel_rfl)) (flatB_is (by kernel_rfl)) (by kernel_rfl) (by kernel_rfl) (by kernel_rfl) (by kernel_rfl) (by kernel_rfl) (by kernel_rfl) fit4 wFit maxM (by decide) ifsQ verM (wWrite fsQ (by decide)) door flexM frameS sameM (fun ver _ _ => by simp [fl]) ?_;rintro ver h0 h1 t ⟨hk, hs⟩;refine ⟨hs _ _, ?_⟩;rw [show (decide ((0 : Int) ≥ 0) && decide (ver ≥ 0)) = fl ver from by simp [fl]];exact beh_plain (plR ver h0 t hk)
end Go.Proofs.YthcgbekkojofpaaGreatDoor.ShareGroupHeartbeatRequest
