/- The parts of the law on HeartbeatRequest. Printed by gen_msg.py. -/
import Derived.Test.YtehjpmchanlebaaGreatDoorPHeartbeatRequest
import Derived.Test.YtehjpmchanlebaaGreatDoorCHeartbeatRequest
import Derived.Test.YtehjpmchanlebaaGreatDoorKqP06
set_option linter.unusedVariables false
set_option linter.unusedSimpArgs false
namespace Go.Proofs.YtehjpmchanlebaaGreatDoor.HeartbeatRequest
open Go.Kq
def tR : List Ty := [.str, .int .i32, .str, .pstr, .tags]
def gR : Rd := (rdCons (rdOne fun _ fl st => if fl then gCStr st else gStr st) (rdCons (rdOne fun _ _ => gNum .i32 4) (rdCons (rdOne fun _ fl st => if fl then gCStr st else gStr st) (rdCons (rdIf (fun v => decide (v ≥ 3)) (.nil) (rdOne fun _ fl st => if fl then gCNStr st else gNStr st)) (rdCons rdTagsF rdSt0)))))
theorem dR : DefM Tryz.prog 48 (.int .i16 :: tR) id := def_skip Tryz.func48 (by kernel_rfl) (by kernel_rfl) (by kernel_rfl)
def fl : Int → Bool := fun v => decide (v ≥ 4)
set_option maxRecDepth 20000 in
theorem rf : ReadM Tryz.prog 1 49 tR [.s [], .n 0, .s [], .nil, .nil] fl gR := by
  refine root Tryz.func49 (by kernel_rfl) rfl rfl rfl ?_ dR (fun _ => rfl) readerT (by kernel_rfl) (by kernel_rfl) (isL_cons (isL_cons (isL_cons (isL_cons (isL_cons isL_nil))))) (by decide)
  refine bdy_fl ?_ (by decide)
  refine Run.cons (m := 11) (o' := 2) ?_ ?_ rfl (by decide) (by decide) (isL_cons (isL_cons (isL_cons (isL_cons isL_nil))))
  · skip
    exact (fld_var (fld_asg (asg_uns (asg_flex (u := 9) (asg_call mUnsafeCompactString (by decide)) (asg_call mUnsafeString (by decide)) rfl (by decide)) (asg_flex (u := 9) (asg_call mCompactString (by decide)) (asg_call mString (by decide)) rfl (by decide)) (by decide)) (by kernel_rfl) (by kernel_rfl) rfl (by decide)) (by decide))
  refine Run.cons (m := 12) (o' := 3) ?_ ?_ rfl (by decide) (by decide) (isL_cons (isL_cons (isL_cons isL_nil)))
  · skip
    exact (fld_asg (asg_call mInt32 (by decide)) (by kernel_rfl) (by kernel_rfl) rfl (by decide))
  refine Run.cons (m := 13) (o' := 4) ?_ ?_ rfl (by decide) (by decide) (isL_cons (isL_cons isL_nil))
  · skip
    exact (fld_var (fld_asg (asg_uns (asg_flex (u := 9) (asg_call mUnsafeCompactString (by decide)) (asg_call mUnsafeString (by decide)) rfl (by decide)) (asg_flex (u := 9) (asg_call mCompactString (by decide)) (asg_call mString (by decide)) rfl (by decide)) (by decide)) (by kernel_rfl) (by kernel_rfl) rfl (by decide)) (by decide))
  refine Run.cons (m := 14) (o' := 5) ?_ ?_ rfl (by decide) (by decide) (isL_cons isL_nil)
  · skip
    exact (fld_if (fld_var (fld_asg (asg_flex (u := 9) (asg_uns (asg_call mUnsafeCompactNullableString (by decide)) (asg_call mCompactNullableString (by decide)) (by decide)) (asg_uns (asg_call mUnsafeNullableString (by decide)) (asg_call mNullableString (by decide)) (by decide)) rfl (by decide)) (by kernel_rfl) (by kernel_rfl) rfl (by decide)) (by decide)) (fun i => rfl) (by decide))
  refine Run.cons (m := 68) (o' := 6) ?_ ?_ rfl (by decide) (by decide) isL_nil
  · skip
    exact (fld_tags (tf := 9) mTags (flatB_is (by kernel_rfl)) (by kernel_rfl) rfl (by decide))
  exact run_end completeM (by decide)
theorem setM : SetM Tryz.prog 25 := set_m Tryz.func25 (by kernel_rfl) rfl rfl rfl (by kernel_rfl) (by kernel_rfl)
theorem newM : NewM Tryz.prog 23 (.int .i16 :: tR) [.n 0, .s [], .n 0, .s [], .nil, .nil] := new_m (d := id) Tryz.func23 (by kernel_rfl) rfl rfl rfl (zeroB_is (by kernel_rfl)) dR (by decide)
theorem maxM : MaxM Tryz.prog 12 4 := maxd_m (tys := .int .i16 :: tR) (ds := [.n 0, .s [], .n 0, .s [], .nil, .nil]) (mx := ((4 : Nat) : Int)) (fmx := 24) (fnw := 23) (f := 12) (P := Tryz.prog) Tryz.func12 (by kernel_rfl) rfl rfl rfl newM (maxv_m Tryz.func24 (by kernel_rfl) rfl rfl rfl) (by decide) (by kernel_rfl) (by kernel_rfl)
theorem rd1 : ReadD Tryz.prog 1 26 tR [.s [], .n 0, .s [], .nil, .nil] fl gR := read_d rf Tryz.func26 (by kernel_rfl) rfl rfl rfl
theorem door : BehM Tryz.prog 1 14 (behRes gR fl fun ver => apSt ((fun _ => []) :: gaHeartbeatRequest ver)) := behind_m (te := 5) Tryz.func14 (by kernel_rfl) rfl rfl rfl (by kernel_rfl) octT (by kernel_rfl) (by kernel_rfl) (by kernel_rfl) newM setM rd1 app
theorem plR (ver : Int) (hv : 0 ≤ ver) (t : T) (hk : KeysOk t) : InvL gR ver (decide (ver ≥ 4)) (gaHeartbeatRequest ver) (partW fsHeartbeatRequest ver (decide (ver ≥ 4)) t) := by
  refine inv_part (by kernel_rfl) ?_
  refine invb_cons (inv_has (has_all hv (by decide) (by decide)) (invf_str (by decide))) ?_
  refine invb_cons (inv_has (has_all hv (by decide) (by decide)) invf_i32) ?_
  refine invb_cons (inv_has (has_all hv (by decide) (by decide)) (invf_str (by decide))) ?_
  refine invb_cons (inv_gate (p := fun v => decide (v ≥ 3)) (has_ge (by decide)) invf_pstr) ?_
  exact invb_nil (inv_tagend hk)
def small (t : T) : Prop := KeysOk t ∧ ∀ ver flex, (partW fsHeartbeatRequest ver flex t).length ≤ 2147483648
theorem law : LawB Tryz.prog 1 4 small := by
  refine lawb_m (te := 5) (mx := 4) (fs := fsHeartbeatRequest) (enc := partW fsHeartbeatRequest) Tryz.func4 (by kernel_rfl) rfl rfl rfl (by kernel_rfl) octT (by kernel_rfl) (flatB_is (by kernel_rfl)) (flatB_is (by kernel_rfl)) wFit maxM (by decide) ifsHeartbeatRequest verM (wWrite fsHeartbeatRequest (by decide)) door sameM ?_
  rintro ver h0 h1 t ⟨hk, hs⟩
  refine ⟨hs _ _, ?_⟩
  rw [show (decide ((4 : Int) ≥ 0) && decide (ver ≥ 4)) = fl ver from by simp [fl]]
  exact beh_plain (plR ver h0 t hk)
end Go.Proofs.YtehjpmchanlebaaGreatDoor.HeartbeatRequest
