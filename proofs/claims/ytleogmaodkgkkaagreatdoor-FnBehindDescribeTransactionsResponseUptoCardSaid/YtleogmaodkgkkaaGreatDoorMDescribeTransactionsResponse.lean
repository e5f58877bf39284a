/- The parts of the law on DescribeTransactionsResponse. Printed by gen_msg.py. -/
import Derived.Test.YtleogmaodkgkkaaGreatDoorPDescribeTransactionsResponse
import Derived.Test.YtleogmaodkgkkaaGreatDoorCDescribeTransactionsResponse
import Derived.Test.YtleogmaodkgkkaaGreatDoorKqP06
set_option linter.unusedVariables false
set_option linter.unusedSimpArgs false
namespace Go.Proofs.YtleogmaodkgkkaaGreatDoor.DescribeTransactionsResponse
open Go.Kq
def tTransactionStateTopic : List Ty := [.str, .arr (.int .i32), .tags]
def gTransactionStateTopic : Rd := (rdCons (rdOne fun _ fl st => if fl then gCStr st else gStr st) (rdCons (rdArr (fun _ fl st => if fl then gCALen st else gALen st) (rdOne fun _ _ => gNum .i32 4)) (rdCons rdTagsF rdSt0)))
theorem dTransactionStateTopic : DefM Tryz.prog 143 (tTransactionStateTopic) id := def_skip Tryz.func143 (by kernel_rfl) (by kernel_rfl) (by kernel_rfl)
def tTransactionState : List Ty := [.int .i16, .str, .str, .int .i32, .int .i64, .int .i64, .int .i16, .arr (.st tTransactionStateTopic), .tags]
def gTransactionState : Rd := (rdCons (rdOne fun _ _ => gNum .i16 2) (rdCons (rdOne fun _ fl st => if fl then gCStr st else gStr st) (rdCons (rdOne fun _ fl st => if fl then gCStr st else gStr st) (rdCons (rdOne fun _ _ => gNum .i32 4) (rdCons (rdOne fun _ _ => gNum .i64 8) (rdCons (rdOne fun _ _ => gNum .i64 8) (rdCons (rdOne fun _ _ => gNum .i16 2) (rdCons (rdArr (fun _ fl st => if fl then gCALen st else gALen st) gTransactionStateTopic) (rdCons rdTagsF rdSt0)))))))))
theorem dTransactionState : DefM Tryz.prog 142 (tTransactionState) id := def_skip Tryz.func142 (by kernel_rfl) (by kernel_rfl) (by kernel_rfl)
def tR : List Ty := [.int .i32, .arr (.st tTransactionState), .tags]
def gR : Rd := (rdCons (rdOne fun _ _ => gNum .i32 4) (rdCons (rdArr (fun _ fl st => if fl then gCALen st else gALen st) gTransactionState) (rdCons rdTagsF rdSt0)))
theorem dR : DefM Tryz.prog 103 (.int .i16 :: tR) id := def_skip Tryz.func103 (by kernel_rfl) (by kernel_rfl) (by kernel_rfl)
def fl : Int → Bool := fun v => decide (v ≥ 0)
set_option maxRecDepth 20000 in
theorem rf : ReadM Tryz.prog 0 105 tR [.n 0, .nil, .nil] fl gR := by
  refine root Tryz.func105 (by kernel_rfl) rfl rfl rfl ?_ dR (fun _ => rfl) readerT (by kernel_rfl) (by kernel_rfl) (isL_cons (isL_cons (isL_cons isL_nil))) (by decide)
  refine bdy_fl ?_ (by decide)
  refine Run.cons (m := 11) (o' := 2) ?_ ?_ rfl (by decide) (by decide) (isL_cons (isL_cons isL_nil))
  · skip
    exact (fld_asg (asg_call mInt32 (by decide)) (by kernel_rfl) (by kernel_rfl) rfl (by decide))
  refine Run.cons (m := 12) (o' := 3) ?_ ?_ rfl (by decide) (by decide) (isL_cons isL_nil)
  · skip
    refine fld_arr (m' := 16) (e0 := 128) (bs := 104) okM completeM (asg_flex (u := 9) (asg_call mCompactArrayLen (by decide)) (asg_call mArrayLen (by decide)) rfl (by decide)) ?_ (by kernel_rfl) (by decide) (by kernel_rfl) (by kernel_rfl) (by kernel_rfl) (zeroB_is (z := [.int .i16 0, .string ⟨#[]⟩, .string ⟨#[]⟩, .int .i32 0, .int .i64 0, .int .i64 0, .int .i16 0, .slice none 0 0, .map none]) (by kernel_rfl)) rfl rfl (by decide)
    refine elt_st (m' := 18) (et := 128) (z0 := [.n 0, .s [], .s [], .n 0, .n 0, .n 0, .n 0, .nil, .nil]) (bs := 104) ?_ dTransactionState ?_ (by kernel_rfl) (by decide)
    · skip
      refine Fld.cons (m := 18) (m' := 19) (o' := 1) ?_ ?_ rfl (by decide) (by decide) (by decide)
      · skip
        exact (fld_asg (asg_call mInt16 (by decide)) (by kernel_rfl) (by kernel_rfl) rfl (by decide))
      refine Fld.cons (m := 19) (m' := 20) (o' := 2) ?_ ?_ rfl (by decide) (by decide) (by decide)
      · skip
        exact (fld_var (fld_asg (asg_uns (asg_flex (u := 9) (asg_call mUnsafeCompactString (by decide)) (asg_call mUnsafeString (by decide)) rfl (by decide)) (asg_flex (u := 9) (asg_call mCompactString (by decide)) (asg_call mString (by decide)) rfl (by decide)) (by decide)) (by kernel_rfl) (by kernel_rfl) rfl (by decide)) (by decide))
      refine Fld.cons (m := 20) (m' := 21) (o' := 3) ?_ ?_ rfl (by decide) (by decide) (by decide)
      · skip
        exact (fld_var (fld_asg (asg_uns (asg_flex (u := 9) (asg_call mUnsafeCompactString (by decide)) (asg_call mUnsafeString (by decide)) rfl (by decide)) (asg_flex (u := 9) (asg_call mCompactString (by decide)) (asg_call mString (by decide)) rfl (by decide)) (by decide)) (by kernel_rfl) (by kernel_rfl) rfl (by decide)) (by decide))
      refine Fld.cons (m := 21) (m' := 22) (o' := 4) ?_ ?_ rfl (by decide) (by decide) (by decide)
      · skip
        exact (fld_asg (asg_call mInt32 (by decide)) (by kernel_rfl) (by kernel_rfl) rfl (by decide))
      refine Fld.cons (m := 22) (m' := 23) (o' := 5) ?_ ?_ rfl (by decide) (by decide) (by decide)
      · skip
        exact (fld_asg (asg_call mInt64 (by decide)) (by kernel_rfl) (by kernel_rfl) rfl (by decide))
      refine Fld.cons (m := 23) (m' := 24) (o' := 6) ?_ ?_ rfl (by decide) (by decide) (by decide)
      · skip
        exact (fld_asg (asg_call mInt64 (by decide)) (by kernel_rfl) (by kernel_rfl) rfl (by decide))
      refine Fld.cons (m := 24) (m' := 25) (o' := 7) ?_ ?_ rfl (by decide) (by decide) (by decide)
      · skip
        exact (fld_asg (asg_call mInt16 (by decide)) (by kernel_rfl) (by kernel_rfl) rfl (by decide))
      refine Fld.cons (m := 25) (m' := 214) (o' := 8) ?_ ?_ rfl (by decide) (by decide) (by decide)
      · skip
        refine fld_arr (m' := 29) (e0 := 130) (bs := 48) okM completeM (asg_flex (u := 9) (asg_call mCompactArrayLen (by decide)) (asg_call mArrayLen (by decide)) rfl (by decide)) ?_ (by kernel_rfl) (by decide) (by kernel_rfl) (by kernel_rfl) (by kernel_rfl) (zeroB_is (z := [.string ⟨#[]⟩, .slice none 0 0, .map none]) (by kernel_rfl)) rfl rfl (by decide)
        refine elt_st (m' := 31) (et := 130) (z0 := [.s [], .nil, .nil]) (bs := 48) ?_ dTransactionStateTopic ?_ (by kernel_rfl) (by decide)
        · skip
          refine Fld.cons (m := 31) (m' := 32) (o' := 1) ?_ ?_ rfl (by decide) (by decide) (by decide)
          · skip
            exact (fld_var (fld_asg (asg_uns (asg_flex (u := 9) (asg_call mUnsafeCompactString (by decide)) (asg_call mUnsafeString (by decide)) rfl (by decide)) (asg_flex (u := 9) (asg_call mCompactString (by decide)) (asg_call mString (by decide)) rfl (by decide)) (by decide)) (by kernel_rfl) (by kernel_rfl) rfl (by decide)) (by decide))
          refine Fld.cons (m := 32) (m' := 204) (o' := 2) ?_ ?_ rfl (by decide) (by decide) (by decide)
          · skip
            refine fld_arr (m' := 36) (e0 := 21) (bs := 4) okM completeM (asg_flex (u := 9) (asg_call mCompactArrayLen (by decide)) (asg_call mArrayLen (by decide)) rfl (by decide)) ?_ (by kernel_rfl) (by decide) (by kernel_rfl) (by kernel_rfl) (by kernel_rfl) (zeroB_is (z := [.int .i32 0]) (by kernel_rfl)) rfl rfl (by decide)
            exact elt_one (m' := 36) (et := 21) (bs := 4) (asg_call mInt32 (by decide)) (by kernel_rfl) (by kernel_rfl) rfl (by decide)
          refine Fld.one ?_
          exact (fld_tags (tf := 9) mTags (flatB_is (by kernel_rfl)) (by kernel_rfl) rfl (by decide))
        · exact fun w => reps_zero tTransactionStateTopic
      refine Fld.one ?_
      exact (fld_tags (tf := 9) mTags (flatB_is (by kernel_rfl)) (by kernel_rfl) rfl (by decide))
    · exact fun w => reps_zero tTransactionState
  refine Run.cons (m := 224) (o' := 4) ?_ ?_ rfl (by decide) (by decide) isL_nil
  · skip
    exact (fld_tags (tf := 9) mTags (flatB_is (by kernel_rfl)) (by kernel_rfl) rfl (by decide))
  exact run_end completeM (by decide)
theorem setM : SetM Tryz.prog 65 := set_m Tryz.func65 (by kernel_rfl) rfl rfl rfl (by kernel_rfl) (by kernel_rfl)
theorem newM : NewM Tryz.prog 62 (.int .i16 :: tR) [.n 0, .n 0, .nil, .nil] := new_m (d := id) Tryz.func62 (by kernel_rfl) rfl rfl rfl (zeroB_is (by kernel_rfl)) dR (by decide)
theorem maxM : MaxM Tryz.prog 28 0 := maxd_m (tys := .int .i16 :: tR) (ds := [.n 0, .n 0, .nil, .nil]) (mx := ((0 : Nat) : Int)) (fmx := 63) (fnw := 62) (f := 28) (P := Tryz.prog) Tryz.func28 (by kernel_rfl) rfl rfl rfl newM (maxv_m Tryz.func63 (by kernel_rfl) rfl rfl rfl) (by decide) (by kernel_rfl) (by kernel_rfl)
theorem rd1 : ReadD Tryz.prog 0 66 tR [.n 0, .nil, .nil] fl gR := read_d rf Tryz.func66 (by kernel_rfl) rfl rfl rfl
theorem door : BehM Tryz.prog 0 30 (behRes gR fl fun ver => apSt ((fun _ => []) :: gaDescribeTransactionsResponse ver)) := behind_m (te := 5) Tryz.func30 (by kernel_rfl) rfl rfl rfl (by kernel_rfl) octT (by kernel_rfl) (by kernel_rfl) (by kernel_rfl) newM setM rd1 app
theorem plTransactionStateTopic (ver : Int) (hv : 0 ≤ ver) (t : T) (hk : KeysOk t) : InvL gTransactionStateTopic ver (decide (ver ≥ 0)) (gaDescribeTransactionsResponseTransactionStateTopic ver) (partW fssDescribeTransactionsResponseTransactionStateTopic ver (decide (ver ≥ 0)) t) := by
  refine inv_part (by kernel_rfl) ?_
  refine invb_cons (inv_has (has_all hv (by decide) (by decide)) (invf_str (by decide))) ?_
  refine invb_cons (inv_has (has_all hv (by decide) (by decide)) (invf_arr (by decide) (fun z hz => inv_el_i32) (fun z => value_pos (by decide)))) ?_
  exact invb_nil (inv_tagend hk)
theorem poTransactionStateTopic (ver : Int) (hv : 0 ≤ ver) (t : T) : 1 ≤ (partW fssDescribeTransactionsResponseTransactionStateTopic ver (decide (ver ≥ 0)) t).length := part_pos (by kernel_rfl) (body_head (has_all hv (by decide) (by decide)) (fieldW_pos (by decide)))
theorem plTransactionState (ver : Int) (hv : 0 ≤ ver) (t : T) (hk : KeysOk t) : InvL gTransactionState ver (decide (ver ≥ 0)) (gaDescribeTransactionsResponseTransactionState ver) (partW fssDescribeTransactionsResponseTransactionState ver (decide (ver ≥ 0)) t) := by
  refine inv_part (by kernel_rfl) ?_
  refine invb_cons (inv_has (has_all hv (by decide) (by decide)) invf_i16) ?_
  refine invb_cons (inv_has (has_all hv (by decide) (by decide)) (invf_str (by decide))) ?_
  refine invb_cons (inv_has (has_all hv (by decide) (by decide)) (invf_str (by decide))) ?_
  refine invb_cons (inv_has (has_all hv (by decide) (by decide)) invf_i32) ?_
  refine invb_cons (inv_has (has_all hv (by decide) (by decide)) invf_i64) ?_
  refine invb_cons (inv_has (has_all hv (by decide) (by decide)) invf_i64) ?_
  refine invb_cons (inv_has (has_all hv (by decide) (by decide)) invf_i16) ?_
  refine invb_cons (inv_has (has_all hv (by decide) (by decide)) (invf_arr (by decide) (fun z hz => inv_el (plTransactionStateTopic ver hv z ((KeysOk.at hk.l 7).l z hz))) (fun z => value_pos10 (poTransactionStateTopic ver hv z)))) ?_
  exact invb_nil (inv_tagend hk)
theorem poTransactionState (ver : Int) (hv : 0 ≤ ver) (t : T) : 1 ≤ (partW fssDescribeTransactionsResponseTransactionState ver (decide (ver ≥ 0)) t).length := part_pos (by kernel_rfl) (body_head (has_all hv (by decide) (by decide)) (fieldW_pos (by decide)))
theorem plR (ver : Int) (hv : 0 ≤ ver) (t : T) (hk : KeysOk t) : InvL gR ver (decide (ver ≥ 0)) (gaDescribeTransactionsResponse ver) (partW fsDescribeTransactionsResponse ver (decide (ver ≥ 0)) t) := by
  refine inv_part (by kernel_rfl) ?_
  refine invb_cons (inv_has (has_all hv (by decide) (by decide)) invf_i32) ?_
  refine invb_cons (inv_has (has_all hv (by decide) (by decide)) (invf_arr (by decide) (fun z hz => inv_el (plTransactionState ver hv z ((KeysOk.at hk.l 1).l z hz))) (fun z => value_pos10 (poTransactionState ver hv z)))) ?_
  exact invb_nil (inv_tagend hk)
def small (t : T) : Prop := KeysOk t ∧ ∀ ver flex, (partW fsDescribeTransactionsResponse ver flex t).length ≤ 2147483648
theorem law : LawB Tryz.prog 0 8 small := by
  refine lawb_m (te := 5) (mx := 0) (fs := fsDescribeTransactionsResponse) (enc := partW fsDescribeTransactionsResponse) Tryz.func8 (by kernel_rfl) rfl rfl rfl (by kernel_rfl) octT (by kernel_rfl) (flatB_is (by kernel_rfl)) (flatB_is (by kernel_rfl)) wFit maxM (by decide) ifsDescribeTransactionsResponse verM (wWrite fsDescribeTransactionsResponse (by decide)) door sameM ?_
  rintro ver h0 h1 t ⟨hk, hs⟩
  refine ⟨hs _ _, ?_⟩
  rw [show (decide ((0 : Int) ≥ 0) && decide (ver ≥ 0)) = fl ver from by simp [fl]]
  exact beh_plain (plR ver h0 t hk)
end Go.Proofs.YtleogmaodkgkkaaGreatDoor.DescribeTransactionsResponse
