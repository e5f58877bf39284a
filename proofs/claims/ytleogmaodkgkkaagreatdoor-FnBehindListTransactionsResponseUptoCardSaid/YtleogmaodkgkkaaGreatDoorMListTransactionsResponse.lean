/- The parts of the law on ListTransactionsResponse. Printed by gen_msg.py. -/
import Derived.Test.YtleogmaodkgkkaaGreatDoorPListTransactionsResponse
import Derived.Test.YtleogmaodkgkkaaGreatDoorCListTransactionsResponse
import Derived.Test.YtleogmaodkgkkaaGreatDoorKqP06
set_option linter.unusedVariables false
set_option linter.unusedSimpArgs false
namespace Go.Proofs.YtleogmaodkgkkaaGreatDoor.ListTransactionsResponse
open Go.Kq
def tTransactionState : List Ty := [.str, .int .i64, .str, .tags]
def gTransactionState : Rd := (rdCons (rdOne fun _ fl st => if fl then gCStr st else gStr st) (rdCons (rdOne fun _ _ => gNum .i64 8) (rdCons (rdOne fun _ fl st => if fl then gCStr st else gStr st) (rdCons rdTagsF rdSt0))))
theorem dTransactionState : DefM Tryz.prog 139 (tTransactionState) id := def_skip Tryz.func139 (by kernel_rfl) (by kernel_rfl) (by kernel_rfl)
def tR : List Ty := [.int .i32, .int .i16, .arr .str, .arr (.st tTransactionState), .tags]
def gR : Rd := (rdCons (rdOne fun _ _ => gNum .i32 4) (rdCons (rdOne fun _ _ => gNum .i16 2) (rdCons (rdArr (fun _ fl st => if fl then gCALen st else gALen st) (rdOne fun _ fl st => if fl then gCStr st else gStr st)) (rdCons (rdArr (fun _ fl st => if fl then gCALen st else gALen st) gTransactionState) (rdCons rdTagsF rdSt0)))))
theorem dR : DefM Tryz.prog 98 (.int .i16 :: tR) id := def_skip Tryz.func98 (by kernel_rfl) (by kernel_rfl) (by kernel_rfl)
def fl : Int → Bool := fun v => decide (v ≥ 0)
set_option maxRecDepth 20000 in
theorem rf : ReadM Tryz.prog 0 99 tR [.n 0, .n 0, .nil, .nil, .nil] fl gR := by
  refine root Tryz.func99 (by kernel_rfl) rfl rfl rfl ?_ dR (fun _ => rfl) readerT (by kernel_rfl) (by kernel_rfl) (isL_cons (isL_cons (isL_cons (isL_cons (isL_cons isL_nil))))) (by decide)
  refine bdy_fl ?_ (by decide)
  refine Run.cons (m := 11) (o' := 2) ?_ ?_ rfl (by decide) (by decide) (isL_cons (isL_cons (isL_cons (isL_cons isL_nil))))
  · skip
    exact (fld_asg (asg_call mInt32 (by decide)) (by kernel_rfl) (by kernel_rfl) rfl (by decide))
  refine Run.cons (m := 12) (o' := 3) ?_ ?_ rfl (by decide) (by decide) (isL_cons (isL_cons (isL_cons isL_nil)))
  · skip
    exact (fld_asg (asg_call mInt16 (by decide)) (by kernel_rfl) (by kernel_rfl) rfl (by decide))
  refine Run.cons (m := 13) (o' := 4) ?_ ?_ rfl (by decide) (by decide) (isL_cons (isL_cons isL_nil))
  · skip
    refine fld_arr (m' := 17) (e0 := 9) (bs := 16) okM completeM (asg_flex (u := 9) (asg_call mCompactArrayLen (by decide)) (asg_call mArrayLen (by decide)) rfl (by decide)) ?_ (by kernel_rfl) (by decide) (by kernel_rfl) (by kernel_rfl) (by kernel_rfl) (zeroB_is (z := [.string ⟨#[]⟩]) (by kernel_rfl)) rfl rfl (by decide)
    exact elt_var (elt_one (m' := 17) (et := 9) (bs := 16) (asg_uns (asg_flex (u := 9) (asg_call mUnsafeCompactString (by decide)) (asg_call mUnsafeString (by decide)) rfl (by decide)) (asg_flex (u := 9) (asg_call mCompactString (by decide)) (asg_call mString (by decide)) rfl (by decide)) (by decide)) (by kernel_rfl) (by kernel_rfl) rfl (by decide)) (by decide)
  refine Run.cons (m := 18) (o' := 5) ?_ ?_ rfl (by decide) (by decide) (isL_cons isL_nil)
  · skip
    refine fld_arr (m' := 22) (e0 := 113) (bs := 48) okM completeM (asg_flex (u := 9) (asg_call mCompactArrayLen (by decide)) (asg_call mArrayLen (by decide)) rfl (by decide)) ?_ (by kernel_rfl) (by decide) (by kernel_rfl) (by kernel_rfl) (by kernel_rfl) (zeroB_is (z := [.string ⟨#[]⟩, .int .i64 0, .string ⟨#[]⟩, .map none]) (by kernel_rfl)) rfl rfl (by decide)
    refine elt_st (m' := 24) (et := 113) (z0 := [.s [], .n 0, .s [], .nil]) (bs := 48) ?_ dTransactionState ?_ (by kernel_rfl) (by decide)
    · skip
      refine Fld.cons (m := 24) (m' := 25) (o' := 1) ?_ ?_ rfl (by decide) (by decide) (by decide)
      · skip
        exact (fld_var (fld_asg (asg_uns (asg_flex (u := 9) (asg_call mUnsafeCompactString (by decide)) (asg_call mUnsafeString (by decide)) rfl (by decide)) (asg_flex (u := 9) (asg_call mCompactString (by decide)) (asg_call mString (by decide)) rfl (by decide)) (by decide)) (by kernel_rfl) (by kernel_rfl) rfl (by decide)) (by decide))
      refine Fld.cons (m := 25) (m' := 26) (o' := 2) ?_ ?_ rfl (by decide) (by decide) (by decide)
      · skip
        exact (fld_asg (asg_call mInt64 (by decide)) (by kernel_rfl) (by kernel_rfl) rfl (by decide))
      refine Fld.cons (m := 26) (m' := 145) (o' := 3) ?_ ?_ rfl (by decide) (by decide) (by decide)
      · skip
        exact (fld_var (fld_asg (asg_uns (asg_flex (u := 9) (asg_call mUnsafeCompactString (by decide)) (asg_call mUnsafeString (by decide)) rfl (by decide)) (asg_flex (u := 9) (asg_call mCompactString (by decide)) (asg_call mString (by decide)) rfl (by decide)) (by decide)) (by kernel_rfl) (by kernel_rfl) rfl (by decide)) (by decide))
      refine Fld.one ?_
      exact (fld_tags (tf := 9) mTags (flatB_is (by kernel_rfl)) (by kernel_rfl) rfl (by decide))
    · exact fun w => reps_zero tTransactionState
  refine Run.cons (m := 155) (o' := 6) ?_ ?_ rfl (by decide) (by decide) isL_nil
  · skip
    exact (fld_tags (tf := 9) mTags (flatB_is (by kernel_rfl)) (by kernel_rfl) rfl (by decide))
  exact run_end completeM (by decide)
theorem setM : SetM Tryz.prog 53 := set_m Tryz.func53 (by kernel_rfl) rfl rfl rfl (by kernel_rfl) (by kernel_rfl)
theorem newM : NewM Tryz.prog 50 (.int .i16 :: tR) [.n 0, .n 0, .n 0, .nil, .nil, .nil] := new_m (d := id) Tryz.func50 (by kernel_rfl) rfl rfl rfl (zeroB_is (by kernel_rfl)) dR (by decide)
theorem maxM : MaxM Tryz.prog 22 2 := maxd_m (tys := .int .i16 :: tR) (ds := [.n 0, .n 0, .n 0, .nil, .nil, .nil]) (mx := ((2 : Nat) : Int)) (fmx := 51) (fnw := 50) (f := 22) (P := Tryz.prog) Tryz.func22 (by kernel_rfl) rfl rfl rfl newM (maxv_m Tryz.func51 (by kernel_rfl) rfl rfl rfl) (by decide) (by kernel_rfl) (by kernel_rfl)
theorem rd1 : ReadD Tryz.prog 0 54 tR [.n 0, .n 0, .nil, .nil, .nil] fl gR := read_d rf Tryz.func54 (by kernel_rfl) rfl rfl rfl
theorem door : BehM Tryz.prog 0 24 (behRes gR fl fun ver => apSt ((fun _ => []) :: gaListTransactionsResponse ver)) := behind_m (te := 5) Tryz.func24 (by kernel_rfl) rfl rfl rfl (by kernel_rfl) octT (by kernel_rfl) (by kernel_rfl) (by kernel_rfl) newM setM rd1 app
theorem plTransactionState (ver : Int) (hv : 0 ≤ ver) (t : T) (hk : KeysOk t) : InvL gTransactionState ver (decide (ver ≥ 0)) (gaListTransactionsResponseTransactionState ver) (partW fssListTransactionsResponseTransactionState ver (decide (ver ≥ 0)) t) := by
  refine inv_part (by kernel_rfl) ?_
  refine invb_cons (inv_has (has_all hv (by decide) (by decide)) (invf_str (by decide))) ?_
  refine invb_cons (inv_has (has_all hv (by decide) (by decide)) invf_i64) ?_
  refine invb_cons (inv_has (has_all hv (by decide) (by decide)) (invf_str (by decide))) ?_
  exact invb_nil (inv_tagend hk)
theorem poTransactionState (ver : Int) (hv : 0 ≤ ver) (t : T) : 1 ≤ (partW fssListTransactionsResponseTransactionState ver (decide (ver ≥ 0)) t).length := part_pos (by kernel_rfl) (body_head (has_all hv (by decide) (by decide)) (fieldW_pos (by decide)))
theorem plR (ver : Int) (hv : 0 ≤ ver) (t : T) (hk : KeysOk t) : InvL gR ver (decide (ver ≥ 0)) (gaListTransactionsResponse ver) (partW fsListTransactionsResponse ver (decide (ver ≥ 0)) t) := by
  refine inv_part (by kernel_rfl) ?_
  refine invb_cons (inv_has (has_all hv (by decide) (by decide)) invf_i32) ?_
  refine invb_cons (inv_has (has_all hv (by decide) (by decide)) invf_i16) ?_
  refine invb_cons (inv_has (has_all hv (by decide) (by decide)) (invf_arr (by decide) (fun z hz => inv_el_str) (fun z => value_pos (by decide)))) ?_
  refine invb_cons (inv_has (has_all hv (by decide) (by decide)) (invf_arr (by decide) (fun z hz => inv_el (plTransactionState ver hv z ((KeysOk.at hk.l 3).l z hz))) (fun z => value_pos10 (poTransactionState ver hv z)))) ?_
  exact invb_nil (inv_tagend hk)
def small (t : T) : Prop := KeysOk t ∧ ∀ ver flex, (partW fsListTransactionsResponse ver flex t).length ≤ 2147483648
theorem law : LawB Tryz.prog 0 6 small := by
  refine lawb_m (te := 5) (mx := 2) (fs := fsListTransactionsResponse) (enc := partW fsListTransactionsResponse) Tryz.func6 (by kernel_rfl) rfl rfl rfl (by kernel_rfl) octT (by kernel_rfl) (flatB_is (by kernel_rfl)) (flatB_is (by kernel_rfl)) wFit maxM (by decide) ifsListTransactionsResponse verM (wWrite fsListTransactionsResponse (by decide)) door sameM ?_
  rintro ver h0 h1 t ⟨hk, hs⟩
  refine ⟨hs _ _, ?_⟩
  rw [show (decide ((0 : Int) ≥ 0) && decide (ver ≥ 0)) = fl ver from by simp [fl]]
  exact beh_plain (plR ver h0 t hk)
end Go.Proofs.YtleogmaodkgkkaaGreatDoor.ListTransactionsResponse
