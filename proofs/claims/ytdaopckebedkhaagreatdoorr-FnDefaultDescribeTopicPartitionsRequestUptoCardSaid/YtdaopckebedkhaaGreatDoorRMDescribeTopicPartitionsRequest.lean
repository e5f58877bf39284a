/- The parts of the law on DescribeTopicPartitionsRequest. Printed by gen_msg.py. -/
import Derived.Test.YtdaopckebedkhaaGreatDoorRCDescribeTopicPartitionsRequest
import Derived.Test.YtdaopckebedkhaaGreatDoorRKqCoT
import Derived.Test.YtdaopckebedkhaaGreatDoorRKqP06
set_option linter.unusedVariables false
set_option linter.unusedSimpArgs false
namespace Go.Proofs.YtdaopckebedkhaaGreatDoorR.DescribeTopicPartitionsRequest
open Go.Kq
def tTopic : List Ty := [.str, .tags]
def gTopic : Rd := (rdCons (rdOne fun _ fl st => if fl then gCStr st else gStr st) (rdCons rdTagsF rdSt0))
theorem dTopic : DefM Tryz.prog 42 (tTopic) id := def_skip Tryz.func42 (by kernel_rfl) (by kernel_rfl) (by kernel_rfl)
def tCursor : List Ty := [.str, .int .i32, .tags]
def gCursor : Rd := (rdCons (rdOne fun _ fl st => if fl then gCStr st else gStr st) (rdCons (rdOne fun _ _ => gNum .i32 4) (rdCons rdTagsF rdSt0)))
theorem dCursor : DefM Tryz.prog 50 (tCursor) id := def_skip Tryz.func50 (by kernel_rfl) (by kernel_rfl) (by kernel_rfl)
def tR : List Ty := [.arr (.st tTopic), .int .i32, .ptr (.st tCursor), .tags]
def gR : Rd := (rdCons (rdArr (fun _ fl st => if fl then gCALen st else gALen st) gTopic) (rdCons (rdOne fun _ _ => gNum .i32 4) (rdCons (rdPtr gCursor) (rdCons rdTagsF rdSt0))))
theorem dR : DefM Tryz.prog 19 (.int .i16 :: tR) (fun xs => (xs.set 2 (.n (2000)))) := def_sets (N := 10) Tryz.func19 (by kernel_rfl) rfl rfl (by decide) rfl (DRun.cons (DRun.one (i := 2) (ty := .int .i32) (x := .n (2000)) (by kernel_rfl) (by kernel_rfl) rfl rfl rfl rfl (fun w => ⟨_, rfl, rfl, by decide, by decide⟩) (by decide)) (DRun.look (o := 3) (by kernel_rfl) (by decide)))
def fl : Int → Bool := fun v => decide (v ≥ 0)
set_option maxRecDepth 20000 in
theorem rf : ReadM Tryz.prog 0 25 tR [.nil, .n (2000), .nil, .nil] fl gR := by
  refine root Tryz.func25 (by kernel_rfl) rfl rfl rfl ?_ dR (fun _ => rfl) readerT (by kernel_rfl) (by kernel_rfl) (isL_cons (isL_cons (isL_cons (isL_cons isL_nil)))) (by decide);refine bdy_fl ?_ (by decide);refine Run.cons (m := 11) (o' := 2) ?_ ?_ rfl (by decide) (by decide) (isL_cons (isL_cons (isL_cons isL_nil)))
  · skip
    refine fld_arr (m' := 15) (e0 := 77) (bs := 24) okM completeM (asg_flex (u := 9) (asg_call mCompactArrayLen (by decide)) (asg_call mArrayLen (by decide)) rfl (by decide)) ?_ (by kernel_rfl) (by decide) (by kernel_rfl) (by kernel_rfl) (by kernel_rfl) (zeroB_is (z := [.string ⟨#[]⟩, .map none]) (by kernel_rfl)) rfl rfl (by decide);refine elt_st (m' := 17) (et := 77) (z0 := [.s [], .nil]) (bs := 24) ?_ dTopic ?_ (by kernel_rfl) (by decide)
    · skip
      refine Fld.cons (m := 17) (m' := 77) (o' := 1) ?_ ?_ rfl (by decide) (by decide) (by decide)
      · skip
        exact (fld_var (fld_asg (asg_uns (asg_flex (u := 9) (asg_call mUnsafeCompactString (by decide)) (asg_call mUnsafeString (by decide)) rfl (by decide)) (asg_flex (u := 9) (asg_call mCompactString (by decide)) (asg_call mString (by decide)) rfl (by decide)) (by decide)) (by kernel_rfl) (by kernel_rfl) rfl (by decide)) (by decide))
      refine Fld.one ?_;exact (fld_tags (tf := 9) mTags (fBi (by kernel_rfl)) (by kernel_rfl) rfl (by decide))
    exact fun w => reps_zero tTopic
  refine Run.cons (m := 18) (o' := 3) ?_ ?_ rfl (by decide) (by decide) (isL_cons (isL_cons isL_nil))
  · skip
    exact (fld_asg (asg_call mInt32 (by decide)) (by kernel_rfl) (by kernel_rfl) rfl (by decide))
  refine Run.cons (m := 19) (o' := 4) ?_ ?_ rfl (by decide) (by decide) (isL_cons isL_nil)
  · skip
    refine fld_ptr (m' := 22) (zs := [.string ⟨#[]⟩, .int .i32 0, .map none]) (z0 := [.s [], .n 0, .nil]) mInt8 okM ?_ dCursor (zeroB_is (by kernel_rfl)) (fun w => reps_zero tCursor) (by kernel_rfl) (by kernel_rfl) (by decide);refine Fld.cons (m := 22) (m' := 23) (o' := 1) ?_ ?_ rfl (by decide) (by decide) (by decide)
    · skip
      exact (fld_var (fld_asg (asg_uns (asg_flex (u := 9) (asg_call mUnsafeCompactString (by decide)) (asg_call mUnsafeString (by decide)) rfl (by decide)) (asg_flex (u := 9) (asg_call mCompactString (by decide)) (asg_call mString (by decide)) rfl (by decide)) (by decide)) (by kernel_rfl) (by kernel_rfl) rfl (by decide)) (by decide))
    refine Fld.cons (m := 23) (m' := 125) (o' := 2) ?_ ?_ rfl (by decide) (by decide) (by decide)
    · skip
      exact (fld_asg (asg_call mInt32 (by decide)) (by kernel_rfl) (by kernel_rfl) rfl (by decide))
    refine Fld.one ?_;exact (fld_tags (tf := 9) mTags (fBi (by kernel_rfl)) (by kernel_rfl) rfl (by decide))
  refine Run.cons (m := 130) (o' := 5) ?_ ?_ rfl (by decide) (by decide) isL_nil
  · skip
    exact (fld_tags (tf := 9) mTags (fBi (by kernel_rfl)) (by kernel_rfl) rfl (by decide))
  exact run_end completeM (by decide)
def gsTopic : List (V → T) := [tStr]
def tgTopic (x : V) : T := .mk 0 [] false (tellAll gsTopic (x.items.drop 0)) (uOf gsTopic (x.items.drop 0))
theorem cbTopic : CbM Tryz.prog 51 := cb_m (et := 5) (TL := 34) (bs := 32) Tryz.func51 (by kernel_rfl) rfl rfl rfl (by kernel_rfl) treeT (by kernel_rfl) (by kernel_rfl) (by decide) tagF tagT (by kernel_rfl) octT
theorem tlTopic : TellM Tryz.prog 26 (.st (tTopic)) tgTopic := by
  refine tell_root (pre := []) (tys := tTopic) (st := 3) (m := 4) treeT Tryz.func26 (by kernel_rfl) rfl rfl rfl ?_ rfl rfl (by decide) (by decide);refine TRun.cons (o' := 1) (tl_str treeT (by kernel_rfl) (by kernel_rfl) (by kernel_rfl) (by kernel_rfl) (by kernel_rfl) (by decide)) ?_ rfl (by decide);exact TRun.tags treeT eachM cbTopic sortedM (by kernel_rfl) (by kernel_rfl) (by decide)
def gsCursor : List (V → T) := [tStr, tNum]
def tgCursor (x : V) : T := .mk 0 [] false (tellAll gsCursor (x.items.drop 0)) (uOf gsCursor (x.items.drop 0))
theorem cbCursor : CbM Tryz.prog 68 := cb_m (et := 5) (TL := 34) (bs := 32) Tryz.func68 (by kernel_rfl) rfl rfl rfl (by kernel_rfl) treeT (by kernel_rfl) (by kernel_rfl) (by decide) tagF tagT (by kernel_rfl) octT
theorem tlCursor : TellM Tryz.prog 52 (.st (tCursor)) tgCursor := by
  refine tell_root (pre := []) (tys := tCursor) (st := 3) (m := 4) treeT Tryz.func52 (by kernel_rfl) rfl rfl rfl ?_ rfl rfl (by decide) (by decide);refine TRun.cons (o' := 1) (tl_str treeT (by kernel_rfl) (by kernel_rfl) (by kernel_rfl) (by kernel_rfl) (by kernel_rfl) (by decide)) ?_ rfl (by decide);refine TRun.cons (o' := 2) (tl_num treeT (by kernel_rfl) (by kernel_rfl) (by kernel_rfl) (by kernel_rfl) (by kernel_rfl) (by decide) (by decide)) ?_ rfl (by decide);exact TRun.tags treeT eachM cbCursor sortedM (by kernel_rfl) (by kernel_rfl) (by decide)
theorem tpCursor : FnP Tryz.prog 27 (.ptr (.st tCursor)) (tPtr tgCursor) := tellptr_m Tryz.func27 (by kernel_rfl) rfl rfl rfl treeT.flat (by kernel_rfl) (by decide) tlCursor
def gsR : List (V → T) := [fun x => .mk 0 [] x.isNil (x.items.map tgTopic) [], tNum, tPtr tgCursor]
def tgR (x : V) : T := .mk 0 [] false (tellAll gsR (x.items.drop 1)) (uOf gsR (x.items.drop 1))
theorem cbR : CbM Tryz.prog 29 := cb_m (et := 5) (TL := 34) (bs := 32) Tryz.func29 (by kernel_rfl) rfl rfl rfl (by kernel_rfl) treeT (by kernel_rfl) (by kernel_rfl) (by decide) tagF tagT (by kernel_rfl) octT
theorem tlR : TellM Tryz.prog 20 (.st (.int .i16 :: tR)) tgR := by
  refine tell_root (pre := [.int .i16]) (tys := tR) (st := 3) (m := 4) treeT Tryz.func20 (by kernel_rfl) rfl rfl rfl ?_ rfl rfl (by decide) (by decide);refine TRun.cons2 (o' := 2) (tl_null treeT (by kernel_rfl) (by kernel_rfl) (by kernel_rfl) (by kernel_rfl) (by kernel_rfl) (by decide)) (tl_loop (m2 := 26) treeT (app_call1 treeT tlTopic rfl (by kernel_rfl) (by kernel_rfl) (by kernel_rfl) (by kernel_rfl) (by decide)) (app_call2 treeT tlTopic (by kernel_rfl) (by kernel_rfl) (by kernel_rfl) (by kernel_rfl) (by decide)) boolT (by kernel_rfl) (by kernel_rfl) (by kernel_rfl) (by kernel_rfl) (by kernel_rfl) (by decide)) ?_ rfl (by decide);refine TRun.cons (o' := 3) (tl_num treeT (by kernel_rfl) (by kernel_rfl) (by kernel_rfl) (by kernel_rfl) (by kernel_rfl) (by decide) (by decide)) ?_ rfl (by decide);refine TRun.cons (o' := 4) (tl_fnP treeT tpCursor (by kernel_rfl) (by kernel_rfl) (by kernel_rfl) rfl (by decide)) ?_ rfl (by decide);exact TRun.tags treeT eachM cbR sortedM (by kernel_rfl) (by kernel_rfl) (by decide)
def gaQTopic (ver : Int) : List (V → List UInt8) := [fun x => if decide (ver ≥ 0) then apCStr x else apStr x, fun x => if decide (ver ≥ 0) then apTags x else []]
def gaQCursor (ver : Int) : List (V → List UInt8) := [fun x => if decide (ver ≥ 0) then apCStr x else apStr x, apInt 4, fun x => if decide (ver ≥ 0) then apTags x else []]
def gaQ (ver : Int) : List (V → List UInt8) := [fun x => (if decide (ver ≥ 0) then apCLen x.items.length else apLen x.items.length) ++ (x.items.map (apSt (gaQTopic ver))).flatten, apInt 4, apPtr (gaQCursor ver), fun x => if decide (ver ≥ 0) then apTags x else []]
theorem plTopic (ver : Int) (hv : 0 ≤ ver) (t : T) (hk : KeysOk t) : InvL gTopic ver (decide (ver ≥ 0)) (gaQTopic ver) (partW fssQTopic ver (decide (ver ≥ 0)) t) := by
  refine inv_part (by kernel_rfl) ?_;refine invb_cons (inv_has (has_all hv (by decide) (by decide)) (invf_str (by decide))) ?_;exact invb_nil (inv_tagend hk)
theorem poTopic (ver : Int) (hv : 0 ≤ ver) (t : T) : 1 ≤ (partW fssQTopic ver (decide (ver ≥ 0)) t).length := part_pos (by kernel_rfl) (body_head (has_all hv (by decide) (by decide)) (fieldW_pos (by decide)))
theorem plCursor (ver : Int) (hv : 0 ≤ ver) (t : T) (hk : KeysOk t) : InvL gCursor ver (decide (ver ≥ 0)) (gaQCursor ver) (partW fssQCursor ver (decide (ver ≥ 0)) t) := by
  refine inv_part (by kernel_rfl) ?_;refine invb_cons (inv_has (has_all hv (by decide) (by decide)) (invf_str (by decide))) ?_;refine invb_cons (inv_has (has_all hv (by decide) (by decide)) invf_i32) ?_;exact invb_nil (inv_tagend hk)
theorem plR (ver : Int) (hv : 0 ≤ ver) (t : T) (hk : KeysOk t) : InvL gR ver (decide (ver ≥ 0)) (gaQ ver) (partW fsQ ver (decide (ver ≥ 0)) t) := by
  refine inv_part (by kernel_rfl) ?_;refine invb_cons (inv_has (has_all hv (by decide) (by decide)) (invf_arr (by decide) (fun z hz => inv_el (plTopic ver hv z ((KeysOk.at hk.l 0).l z hz))) (fun z => value_pos10 (poTopic ver hv z)))) ?_;refine invb_cons (inv_has (has_all hv (by decide) (by decide)) invf_i32) ?_;refine invb_cons (inv_has (has_all hv (by decide) (by decide)) (invf_ptr (by decide) (plCursor ver hv _ (KeysOk.at hk.l 2)))) ?_;exact invb_nil (inv_tagend hk)
theorem setM : SetM Tryz.prog 17 := set_m Tryz.func17 (by kernel_rfl) rfl rfl rfl (by kernel_rfl) (by kernel_rfl)
theorem newM : NewM Tryz.prog 13 (.int .i16 :: tR) [.n 0, .nil, .n (2000), .nil, .nil] := new_m (d := (fun xs => (xs.set 2 (.n (2000))))) Tryz.func13 (by kernel_rfl) rfl rfl rfl (zeroB_is (by kernel_rfl)) dR (by decide)
theorem maxM : MaxM Tryz.prog 5 0 := maxd_m (tys := .int .i16 :: tR) (ds := [.n 0, .nil, .n (2000), .nil, .nil]) (mx := ((0 : Nat) : Int)) (fmx := 14) (fnw := 13) (f := 5) (P := Tryz.prog) Tryz.func5 (by kernel_rfl) rfl rfl rfl newM (maxv_m Tryz.func14 (by kernel_rfl) rfl rfl rfl) (by decide) (by kernel_rfl) (by kernel_rfl)
theorem rd1 : ReadD Tryz.prog 0 18 tR [.nil, .n (2000), .nil, .nil] fl gR := read_d rf Tryz.func18 (by kernel_rfl) rfl rfl rfl
theorem dA : DefMA Tryz.prog 19 (.int .i16 :: tR) (fun xs => (xs.set 2 (.n (2000)))) := def_setsA (N := 10) Tryz.func19 (by kernel_rfl) rfl rfl (by decide) rfl (DRunA.cons (DRunA.one (i := 2) (ty := .int .i32) (x := .n (2000)) (by kernel_rfl) (by kernel_rfl) rfl rfl rfl rfl (fun w => ⟨_, rfl, rfl, by decide, by decide⟩) (by decide)) (DRunA.look (o := 3) (by kernel_rfl) (by decide)))
theorem door : DoorGM Tryz.prog 0 8 (doorResD gR fl (fun xs => (xs.set 2 (.n (2000)))) tgR) := doord_m (te := 5) Tryz.func8 (by kernel_rfl) rfl rfl rfl treeT.flat (by kernel_rfl) (zeroB_is (by kernel_rfl)) (by kernel_rfl) (by kernel_rfl) (by kernel_rfl) newM setM rd1 dA tlR
theorem nR : IsN gR 4 := (isN_cons (isL_cons (isL_cons (isL_cons isL_nil))) (isN_cons (isL_cons (isL_cons isL_nil)) (isN_cons (isL_cons isL_nil) (isN_cons isL_nil isN_nil))))
def small (t : T) : Prop := KeysOk t ∧ ∀ ver flex, (partW fsQ ver flex t).length ≤ 2147483648
theorem df (ver : Int) (xs : List V) (hn : xs.length = 4) : ∀ (j : Nat) (fd : Kq.Fd), fsQ[j]? = some fd → fd.df ≠ 0 → (atT (tgR (.l ((fun xs => (xs.set 2 (.n (2000)))) (.n ver :: xs)))).l j).n = numW fd.kind fd.df := by
  match xs, hn with
  | [x0, x1, x2, x3], _ =>
    intro j fd hj hd
    match j, hj with
    | 0, hj => cases hj; first | exact absurd rfl hd | rfl | decide
    | 1, hj => cases hj; first | exact absurd rfl hd | rfl | decide
    | 2, hj => cases hj; first | exact absurd rfl hd | rfl | decide
    | j + 3, hj => simp [fsQ] at hj
theorem law : LawT Tryz.prog 0 3 small := by
  refine lawd_m (mx := 0) (fs := fsQ) (enc := partW fsQ) Tryz.func3 (by kernel_rfl) rfl rfl rfl (fBi (by kernel_rfl)) (fBi (by kernel_rfl)) (fBi (by kernel_rfl)) (by kernel_rfl) (by kernel_rfl) (by kernel_rfl) wFit maxM (by decide) ifsQ verM (wWrite fsQ (by decide)) door (⟨enters_of Tryz.func11 (by kernel_rfl) rfl, gotM⟩) (dfM fsQ) ?_;rintro ver h0 h1 t ⟨hk, hs⟩;refine ⟨hs _ _, ?_⟩;rw [show (decide ((0 : Int) ≥ 0) && decide (ver ≥ 0)) = fl ver from by simp [fl]];obtain ⟨xs, h3, h4⟩ := dd_plain (fl := fl) (d := (fun xs => (xs.set 2 (.n (2000))))) (tell := tgR) (plR ver h0 t hk) nR;have h5 : doorResD gR fl (fun xs => (xs.set 2 (.n (2000)))) tgR ver (partW fsQ ver (fl ver) t) = _ := h4;rw [h5];exact ⟨rfl, df ver xs h3⟩
end Go.Proofs.YtdaopckebedkhaaGreatDoorR.DescribeTopicPartitionsRequest
