/- The parts of the law on ExpireDelegationTokenResponse. Printed by gen_msg.py. -/
import Derived.Test.YtehjpmchanlebaaDoorPExpireDelegationTokenResponse
import Derived.Test.YtehjpmchanlebaaDoorCExpireDelegationTokenResponse
import Derived.Test.YtehjpmchanlebaaDoorKqP06
set_option linter.unusedVariables false
set_option linter.unusedSimpArgs false
namespace Go.Proofs.YtehjpmchanlebaaDoor.ExpireDelegationTokenResponse
open Go.Kq
def tR : List Ty := [.int .i16, .int .i64, .int .i32, .tags]
def gR : Rd := (rdCons (rdOne fun _ _ => gNum .i16 2) (rdCons (rdOne fun _ _ => gNum .i64 8) (rdCons (rdOne fun _ _ => gNum .i32 4) (rdCons rdTagsF rdSt0))))
theorem dR : DefM Tryd.prog 61 (.int .i16 :: tR) id := def_skip Tryd.func61 (by kernel_rfl) (by kernel_rfl) (by kernel_rfl)
def fl : Int → Bool := fun v => decide (v ≥ 2)
set_option maxRecDepth 20000 in
theorem rf : ReadM Tryd.prog 1 62 tR [.n 0, .n 0, .n 0, .nil] fl gR := by
  refine root Tryd.func62 (by kernel_rfl) rfl rfl rfl ?_ dR (fun _ => rfl) readerT (by kernel_rfl) (by kernel_rfl) (isL_cons (isL_cons (isL_cons (isL_cons isL_nil)))) (by decide)
  refine bdy_fl ?_ (by decide)
  refine Run.cons (m := 11) (o' := 2) ?_ ?_ rfl (by decide) (by decide) (isL_cons (isL_cons (isL_cons isL_nil)))
  · skip
    exact (fld_asg (asg_call mInt16 (by decide)) (by kernel_rfl) (by kernel_rfl) rfl (by decide))
  refine Run.cons (m := 12) (o' := 3) ?_ ?_ rfl (by decide) (by decide) (isL_cons (isL_cons isL_nil))
  · skip
    exact (fld_asg (asg_call mInt64 (by decide)) (by kernel_rfl) (by kernel_rfl) rfl (by decide))
  refine Run.cons (m := 13) (o' := 4) ?_ ?_ rfl (by decide) (by decide) (isL_cons isL_nil)
  · skip
    exact (fld_asg (asg_call mInt32 (by decide)) (by kernel_rfl) (by kernel_rfl) rfl (by decide))
  refine Run.cons (m := 42) (o' := 5) ?_ ?_ rfl (by decide) (by decide) isL_nil
  · skip
    exact (fld_tags (tf := 9) mTags (flatB_is (by kernel_rfl)) (by kernel_rfl) rfl (by decide))
  exact run_end completeM (by decide)
theorem setM : SetM Tryd.prog 32 := set_m Tryd.func32 (by kernel_rfl) rfl rfl rfl (by kernel_rfl) (by kernel_rfl)
theorem newM : NewM Tryd.prog 30 (.int .i16 :: tR) [.n 0, .n 0, .n 0, .n 0, .nil] := new_m (d := id) Tryd.func30 (by kernel_rfl) rfl rfl rfl (zeroB_is (by kernel_rfl)) dR (by decide)
theorem maxM : MaxM Tryd.prog 14 2 := maxd_m (tys := .int .i16 :: tR) (ds := [.n 0, .n 0, .n 0, .n 0, .nil]) (mx := ((2 : Nat) : Int)) (fmx := 31) (fnw := 30) (f := 14) (P := Tryd.prog) Tryd.func14 (by kernel_rfl) rfl rfl rfl newM (maxv_m Tryd.func31 (by kernel_rfl) rfl rfl rfl) (by decide) (by kernel_rfl) (by kernel_rfl)
theorem rd1 : ReadD Tryd.prog 1 33 tR [.n 0, .n 0, .n 0, .nil] fl gR := read_d rf Tryd.func33 (by kernel_rfl) rfl rfl rfl
theorem door : BehM Tryd.prog 1 16 (behRes gR fl fun ver => apSt ((fun _ => []) :: gaExpireDelegationTokenResponse ver)) := behind_m (te := 5) Tryd.func16 (by kernel_rfl) rfl rfl rfl (by kernel_rfl) octT (by kernel_rfl) (by kernel_rfl) (by kernel_rfl) newM setM rd1 app
theorem plR (ver : Int) (hv : 0 ≤ ver) (t : T) (hk : KeysOk t) : InvL gR ver (decide (ver ≥ 2)) (gaExpireDelegationTokenResponse ver) (partW fsExpireDelegationTokenResponse ver (decide (ver ≥ 2)) t) := by
  refine inv_part (by kernel_rfl) ?_
  refine invb_cons (inv_has (has_all hv (by decide) (by decide)) invf_i16) ?_
  refine invb_cons (inv_has (has_all hv (by decide) (by decide)) invf_i64) ?_
  refine invb_cons (inv_has (has_all hv (by decide) (by decide)) invf_i32) ?_
  exact invb_nil (inv_tagend hk)
def small (t : T) : Prop := KeysOk t ∧ ∀ ver flex, (partW fsExpireDelegationTokenResponse ver flex t).length ≤ 2147483648
theorem law : LawB Tryd.prog 1 4 small := by
  refine lawb_m (te := 5) (mx := 2) (fs := fsExpireDelegationTokenResponse) (enc := partW fsExpireDelegationTokenResponse) Tryd.func4 (by kernel_rfl) rfl rfl rfl (by kernel_rfl) octT (by kernel_rfl) (flatB_is (by kernel_rfl)) (flatB_is (by kernel_rfl)) wFit maxM (by decide) ifsExpireDelegationTokenResponse verM (wWrite fsExpireDelegationTokenResponse (by decide)) door sameM ?_
  rintro ver h0 h1 t ⟨hk, hs⟩
  refine ⟨hs _ _, ?_⟩
  rw [show (decide ((2 : Int) ≥ 0) && decide (ver ≥ 2)) = fl ver from by simp [fl]]
  exact beh_plain (plR ver h0 t hk)
end Go.Proofs.YtehjpmchanlebaaDoor.ExpireDelegationTokenResponse
