/- The parts of the law on ElectLeadersRequest. Printed by gen_msg.py. -/
import Derived.Test.YtokkeelmccdcaaaGreatDoorCElectLeadersRequest
import Derived.Test.YtokkeelmccdcaaaGreatDoorKqCoT
import Derived.Test.YtokkeelmccdcaaaGreatDoorKqP06
set_option linter.unusedVariables false
set_option linter.unusedSimpArgs false
namespace Go.Proofs.YtokkeelmccdcaaaGreatDoor.ElectLeadersRequest
open Go.Kq
def tTopic : List Ty := [.str, .arr (.int .i32), .tags]
def gTopic : Rd := (rdCons (rdOne fun _ fl st => if fl then gCStr st else gStr st) (rdCons (rdArr (fun _ fl st => if fl then gCALen st else gALen st) (rdOne fun _ _ => gNum .i32 4)) (rdCons rdTagsF rdSt0)))
theorem dTopic : DefM Tryz.prog 119 (tTopic) id := def_skip Tryz.func119 (by kernel_rfl) (by kernel_rfl) (by kernel_rfl)
def tR : List Ty := [.int .i8, .arr (.st tTopic), .int .i32, .tags]
def gR : Rd := (rdCons (rdIf (fun v => decide (v ≥ 1)) (.n 0) (rdOne fun _ _ => gI8)) (rdCons (rdArrN (0) (fun _ fl st => if fl then gCALen st else gALen st) gTopic) (rdCons (rdOne fun _ _ => gNum .i32 4) (rdCons rdTagsF rdSt0))))
theorem dR : DefM Tryz.prog 41 (.int .i16 :: tR) (fun xs => (xs.set 3 (.n (60000)))) := def_sets (N := 5) Tryz.func41 (by kernel_rfl) rfl rfl (by decide) rfl (DRun.one (i := 3) (ty := .int .i32) (x := .n (60000)) (by kernel_rfl) (by kernel_rfl) rfl rfl rfl rfl (fun w => ⟨_, rfl, rfl, by decide, by decide⟩) (by decide))
def fl : Int → Bool := fun v => decide (v ≥ 2)
set_option maxRecDepth 20000 in
theorem rf : ReadM Tryz.prog 1 73 tR [.n 0, .nil, .n (60000), .nil] fl gR := by
  refine root Tryz.func73 (by kernel_rfl) rfl rfl rfl ?_ dR (fun _ => rfl) readerT (by kernel_rfl) (by kernel_rfl) (isL_cons (isL_cons (isL_cons (isL_cons isL_nil)))) (by decide);refine bdy_fl ?_ (by decide);refine Run.cons (m := 11) (o' := 2) ?_ ?_ rfl (by decide) (by decide) (isL_cons (isL_cons (isL_cons isL_nil)))
  · skip
    exact (fld_if (fld_asg (asg_call mInt8 (by decide)) (by kernel_rfl) (by kernel_rfl) rfl (by decide)) (fun i => rfl) (by decide))
  refine Run.cons (m := 12) (o' := 3) ?_ ?_ rfl (by decide) (by decide) (isL_cons (isL_cons isL_nil))
  · skip
    refine fld_arrN (m' := 16) (e0 := 131) (bs := 48) okM completeM (asg_flex (u := 9) (asg_call mCompactArrayLen (by decide)) (asg_call mArrayLen (by decide)) rfl (by decide)) ?_ (by kernel_rfl) (by decide) (by kernel_rfl) (by kernel_rfl) (by kernel_rfl) (zeroB_is (z := [.string ⟨#[]⟩, .slice none 0 0, .map none]) (by kernel_rfl)) rfl rfl (by decide) (by decide);refine elt_st (m' := 18) (et := 131) (z0 := [.s [], .nil, .nil]) (bs := 48) ?_ dTopic ?_ (by kernel_rfl) (by decide)
    · skip
      refine Fld.cons (m := 18) (m' := 19) (o' := 1) ?_ ?_ rfl (by decide) (by decide) (by decide)
      · skip
        exact (fld_var (fld_asg (asg_uns (asg_flex (u := 9) (asg_call mUnsafeCompactString (by decide)) (asg_call mUnsafeString (by decide)) rfl (by decide)) (asg_flex (u := 9) (asg_call mCompactString (by decide)) (asg_call mString (by decide)) rfl (by decide)) (by decide)) (by kernel_rfl) (by kernel_rfl) rfl (by decide)) (by decide))
      refine Fld.cons (m := 19) (m' := 125) (o' := 2) ?_ ?_ rfl (by decide) (by decide) (by decide)
      · skip
        refine fld_arr (m' := 23) (e0 := 21) (bs := 4) okM completeM (asg_flex (u := 9) (asg_call mCompactArrayLen (by decide)) (asg_call mArrayLen (by decide)) rfl (by decide)) ?_ (by kernel_rfl) (by decide) (by kernel_rfl) (by kernel_rfl) (by kernel_rfl) (zeroB_is (z := [.int .i32 0]) (by kernel_rfl)) rfl rfl (by decide);exact elt_one (m' := 23) (et := 21) (bs := 4) (asg_call mInt32 (by decide)) (by kernel_rfl) (by kernel_rfl) rfl (by decide)
      refine Fld.one ?_;exact (fld_tags (tf := 9) mTags (flatB_is (by kernel_rfl)) (by kernel_rfl) rfl (by decide))
    exact fun w => reps_zero tTopic
  refine Run.cons (m := 24) (o' := 4) ?_ ?_ rfl (by decide) (by decide) (isL_cons isL_nil)
  · skip
    exact (fld_asg (asg_call mInt32 (by decide)) (by kernel_rfl) (by kernel_rfl) rfl (by decide))
  refine Run.cons (m := 140) (o' := 5) ?_ ?_ rfl (by decide) (by decide) isL_nil
  · skip
    exact (fld_tags (tf := 9) mTags (flatB_is (by kernel_rfl)) (by kernel_rfl) rfl (by decide))
  exact run_end completeM (by decide)
def gsTopic : List (V → T) := [tStr, fun x => .mk 0 [] x.isNil (x.items.map tNum) []]
def tgTopic (x : V) : T := .mk 0 [] false (tellAll gsTopic (x.items.drop 0)) (uOf gsTopic (x.items.drop 0))
theorem cbTopic : CbM Tryz.prog 120 := cb_m (et := 5) (TL := 39) (bs := 32) Tryz.func120 (by kernel_rfl) rfl rfl rfl (by kernel_rfl) treeT (by kernel_rfl) (by kernel_rfl) (by decide) tagF tagT (by kernel_rfl) octT
theorem tlTopic : TellM Tryz.prog 74 (.st (tTopic)) tgTopic := by
  refine tell_root (pre := []) (tys := tTopic) (st := 3) (m := 4) treeT Tryz.func74 (by kernel_rfl) rfl rfl rfl ?_ rfl rfl (by decide) (by decide);refine TRun.cons (o' := 1) (tl_str treeT (by kernel_rfl) (by kernel_rfl) (by kernel_rfl) (by kernel_rfl) (by kernel_rfl) (by decide)) ?_ rfl (by decide);refine TRun.cons2 (o' := 2) (tl_null treeT (by kernel_rfl) (by kernel_rfl) (by kernel_rfl) (by kernel_rfl) (by kernel_rfl) (by decide)) (tl_loop (m2 := 35) treeT (app_num1 treeT (by kernel_rfl) (by kernel_rfl) (by kernel_rfl) (by kernel_rfl) rfl (by kernel_rfl) (by kernel_rfl) (by kernel_rfl) (by kernel_rfl) (by decide)) (app_num2 treeT (by kernel_rfl) (by kernel_rfl) (by kernel_rfl) (by kernel_rfl) (by kernel_rfl) (by kernel_rfl) (by kernel_rfl) (by kernel_rfl) (by decide)) boolT (by kernel_rfl) (by kernel_rfl) (by kernel_rfl) (by kernel_rfl) (by kernel_rfl) (by decide)) ?_ rfl (by decide);exact TRun.tags treeT eachM cbTopic sortedM (by kernel_rfl) (by kernel_rfl) (by decide)
def gsR : List (V → T) := [tNum, fun x => .mk 0 [] x.isNil (x.items.map tgTopic) [], tNum]
def tgR (x : V) : T := .mk 0 [] false (tellAll gsR (x.items.drop 1)) (uOf gsR (x.items.drop 1))
theorem cbR : CbM Tryz.prog 76 := cb_m (et := 5) (TL := 39) (bs := 32) Tryz.func76 (by kernel_rfl) rfl rfl rfl (by kernel_rfl) treeT (by kernel_rfl) (by kernel_rfl) (by decide) tagF tagT (by kernel_rfl) octT
theorem tlR : TellM Tryz.prog 42 (.st (.int .i16 :: tR)) tgR := by
  refine tell_root (pre := [.int .i16]) (tys := tR) (st := 3) (m := 4) treeT Tryz.func42 (by kernel_rfl) rfl rfl rfl ?_ rfl rfl (by decide) (by decide);refine TRun.cons (o' := 2) (tl_num treeT (by kernel_rfl) (by kernel_rfl) (by kernel_rfl) (by kernel_rfl) (by kernel_rfl) (by decide) (by decide)) ?_ rfl (by decide);refine TRun.cons2 (o' := 3) (tl_null treeT (by kernel_rfl) (by kernel_rfl) (by kernel_rfl) (by kernel_rfl) (by kernel_rfl) (by decide)) (tl_loop (m2 := 35) treeT (app_call1 treeT tlTopic rfl (by kernel_rfl) (by kernel_rfl) (by kernel_rfl) (by kernel_rfl) (by decide)) (app_call2 treeT tlTopic (by kernel_rfl) (by kernel_rfl) (by kernel_rfl) (by kernel_rfl) (by decide)) boolT (by kernel_rfl) (by kernel_rfl) (by kernel_rfl) (by kernel_rfl) (by kernel_rfl) (by decide)) ?_ rfl (by decide);refine TRun.cons (o' := 4) (tl_num treeT (by kernel_rfl) (by kernel_rfl) (by kernel_rfl) (by kernel_rfl) (by kernel_rfl) (by decide) (by decide)) ?_ rfl (by decide);exact TRun.tags treeT eachM cbR sortedM (by kernel_rfl) (by kernel_rfl) (by decide)
def gaQTopic (ver : Int) : List (V → List UInt8) := [fun x => if decide (ver ≥ 2) then apCStr x else apStr x, fun x => (if decide (ver ≥ 2) then apCLen x.items.length else apLen x.items.length) ++ (x.items.map (apInt 4)).flatten, fun x => if decide (ver ≥ 2) then apTags x else []]
def gaQ (ver : Int) : List (V → List UInt8) := [fun x => if decide (ver ≥ 1) then (apInt 1) x else [], fun x => (if decide (ver ≥ 2) then apCNLen x else apNLen x) ++ (x.items.map (apSt (gaQTopic ver))).flatten, apInt 4, fun x => if decide (ver ≥ 2) then apTags x else []]
theorem plTopic (ver : Int) (hv : 0 ≤ ver) (t : T) (hk : KeysOk t) : InvL gTopic ver (decide (ver ≥ 2)) (gaQTopic ver) (partW fssQTopic ver (decide (ver ≥ 2)) t) := by
  refine inv_part (by kernel_rfl) ?_;refine invb_cons (inv_has (has_all hv (by decide) (by decide)) (invf_str (by decide))) ?_;refine invb_cons (inv_has (has_all hv (by decide) (by decide)) (invf_arr (by decide) (fun z hz => inv_el_i32) (fun z => value_pos (by decide)))) ?_;exact invb_nil (inv_tagend hk)
theorem poTopic (ver : Int) (hv : 0 ≤ ver) (t : T) : 1 ≤ (partW fssQTopic ver (decide (ver ≥ 2)) t).length := part_pos (by kernel_rfl) (body_head (has_all hv (by decide) (by decide)) (fieldW_pos (by decide)))
theorem plR (ver : Int) (hv : 0 ≤ ver) (t : T) (hk : KeysOk t) : InvL gR ver (decide (ver ≥ 2)) (gaQ ver) (partW fsQ ver (decide (ver ≥ 2)) t) := by
  refine inv_part (by kernel_rfl) ?_;refine invb_cons (inv_gate (p := fun v => decide (v ≥ 1)) (has_ge (by decide)) invf_i8) ?_;refine invb_cons (inv_has (has_all hv (by decide) (by decide)) (invf_arrN hv (by decide) (fun z hz => inv_el (plTopic ver hv z ((KeysOk.at hk.l 1).l z hz))) (fun z => value_pos10 (poTopic ver hv z)))) ?_;refine invb_cons (inv_has (has_all hv (by decide) (by decide)) invf_i32) ?_;exact invb_nil (inv_tagend hk)
theorem setM : SetM Tryz.prog 39 := set_m Tryz.func39 (by kernel_rfl) rfl rfl rfl (by kernel_rfl) (by kernel_rfl)
theorem newM : NewM Tryz.prog 36 (.int .i16 :: tR) [.n 0, .n 0, .nil, .n (60000), .nil] := new_m (d := (fun xs => (xs.set 3 (.n (60000))))) Tryz.func36 (by kernel_rfl) rfl rfl rfl (zeroB_is (by kernel_rfl)) dR (by decide)
theorem maxM : MaxM Tryz.prog 16 2 := maxd_m (tys := .int .i16 :: tR) (ds := [.n 0, .n 0, .nil, .n (60000), .nil]) (mx := ((2 : Nat) : Int)) (fmx := 37) (fnw := 36) (f := 16) (P := Tryz.prog) Tryz.func16 (by kernel_rfl) rfl rfl rfl newM (maxv_m Tryz.func37 (by kernel_rfl) rfl rfl rfl) (by decide) (by kernel_rfl) (by kernel_rfl)
theorem rd1 : ReadD Tryz.prog 1 40 tR [.n 0, .nil, .n (60000), .nil] fl gR := read_d rf Tryz.func40 (by kernel_rfl) rfl rfl rfl
theorem dA : DefMA Tryz.prog 41 (.int .i16 :: tR) (fun xs => (xs.set 3 (.n (60000)))) := def_setsA (N := 5) Tryz.func41 (by kernel_rfl) rfl rfl (by decide) rfl (DRunA.one (i := 3) (ty := .int .i32) (x := .n (60000)) (by kernel_rfl) (by kernel_rfl) rfl rfl rfl rfl (fun w => ⟨_, rfl, rfl, by decide, by decide⟩) (by decide))
theorem door : DoorGM Tryz.prog 1 18 (doorResD gR fl (fun xs => (xs.set 3 (.n (60000)))) tgR) := doord_m (te := 5) Tryz.func18 (by kernel_rfl) rfl rfl rfl treeT.flat (by kernel_rfl) (zeroB_is (by kernel_rfl)) (by kernel_rfl) (by kernel_rfl) (by kernel_rfl) newM setM rd1 dA tlR
theorem nR : IsN gR 4 := (isN_cons (isL_cons (isL_cons (isL_cons isL_nil))) (isN_cons (isL_cons (isL_cons isL_nil)) (isN_cons (isL_cons isL_nil) (isN_cons isL_nil isN_nil))))
def small (t : T) : Prop := KeysOk t ∧ ∀ ver flex, (partW fsQ ver flex t).length ≤ 2147483648
theorem df (ver : Int) (xs : List V) (hn : xs.length = 4) : ∀ (j : Nat) (fd : Kq.Fd), fsQ[j]? = some fd → fd.df ≠ 0 → (atT (tgR (.l ((fun xs => (xs.set 3 (.n (60000)))) (.n ver :: xs)))).l j).n = numW fd.kind fd.df := by
  match xs, hn with
  | [x0, x1, x2, x3], _ =>
    intro j fd hj hd
    match j, hj with
    | 0, hj => cases hj; first | exact absurd rfl hd | rfl | decide
    | 1, hj => cases hj; first | exact absurd rfl hd | rfl | decide
    | 2, hj => cases hj; first | exact absurd rfl hd | rfl | decide
    | j + 3, hj => simp [fsQ] at hj
theorem law : LawT Tryz.prog 1 5 small := by
  refine lawd_m (mx := 2) (fs := fsQ) (enc := partW fsQ) Tryz.func5 (by kernel_rfl) rfl rfl rfl (flatB_is (by kernel_rfl)) (flatB_is (by kernel_rfl)) (flatB_is (by kernel_rfl)) (by kernel_rfl) (by kernel_rfl) (by kernel_rfl) wFit maxM (by decide) ifsQ verM (wWrite fsQ (by decide)) door (⟨enters_of Tryz.func20 (by kernel_rfl) rfl, gotM⟩) (dfM fsQ) ?_;rintro ver h0 h1 t ⟨hk, hs⟩;refine ⟨hs _ _, ?_⟩;rw [show (decide ((2 : Int) ≥ 0) && decide (ver ≥ 2)) = fl ver from by simp [fl]];obtain ⟨xs, h3, h4⟩ := dd_plain (fl := fl) (d := (fun xs => (xs.set 3 (.n (60000))))) (tell := tgR) (plR ver h0 t hk) nR;have h5 : doorResD gR fl (fun xs => (xs.set 3 (.n (60000)))) tgR ver (partW fsQ ver (fl ver) t) = _ := h4;rw [h5];exact ⟨rfl, df ver xs h3⟩
end Go.Proofs.YtokkeelmccdcaaaGreatDoor.ElectLeadersRequest
