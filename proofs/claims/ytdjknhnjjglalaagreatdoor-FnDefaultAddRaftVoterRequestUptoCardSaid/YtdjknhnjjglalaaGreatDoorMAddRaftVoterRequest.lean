/- The parts of the law on AddRaftVoterRequest. Printed by gen_msg.py. -/
import Derived.Test.YtdjknhnjjglalaaGreatDoorCAddRaftVoterRequest
import Derived.Test.YtdjknhnjjglalaaGreatDoorKqCoT
set_option linter.unusedVariables false
set_option linter.unusedSimpArgs false
namespace Go.Proofs.YtdjknhnjjglalaaGreatDoor.AddRaftVoterRequest
open Go.Kq
def tListener : List Ty := [.str, .str, .int .u16, .tags]
def gListener : Rd := (rdCons (rdOne fun _ fl st => if fl then gCStr st else gStr st) (rdCons (rdOne fun _ fl st => if fl then gCStr st else gStr st) (rdCons (rdOne fun _ _ => gNum .u16 2) (rdCons rdTagsF rdSt0))))
theorem dListener : DefM Tryz.prog 127 (tListener) id := def_skip Tryz.func127 (by kernel_rfl) (by kernel_rfl) (by kernel_rfl)
def tR : List Ty := [.pstr, .int .i32, .int .i32, .uuid, .arr (.st tListener), .bool, .tags]
def gR : Rd := (rdCons (rdOne fun _ fl st => if fl then gCNStr st else gNStr st) (rdCons (rdOne fun _ _ => gNum .i32 4) (rdCons (rdOne fun _ _ => gNum .i32 4) (rdCons (rdOne fun _ _ => gUuid) (rdCons (rdArr (fun _ fl st => if fl then gCALen st else gALen st) gListener) (rdCons (rdIf (fun v => decide (v ≥ 1)) (.n 1) (rdOne fun _ _ => gBool)) (rdCons rdTagsF rdSt0)))))))
theorem dR : DefM Tryz.prog 46 (.int .i16 :: tR) (fun xs => ((xs.set 2 (.n (15000))).set 6 (.n 1))) := def_sets (N := 8) Tryz.func46 (by kernel_rfl) rfl rfl (by decide) rfl (DRun.cons (DRun.one (i := 2) (ty := .int .i32) (x := .n (15000)) (by kernel_rfl) (by kernel_rfl) rfl rfl rfl rfl (fun w => ⟨_, rfl, rfl, by decide, by decide⟩) (by decide)) (DRun.one (i := 6) (ty := .bool) (x := .n 1) (by kernel_rfl) (by kernel_rfl) rfl rfl rfl rfl (fun w => ⟨true, rfl, rfl⟩) (by decide)))
def fl : Int → Bool := fun v => decide (v ≥ 0)
set_option maxRecDepth 20000 in
theorem rf : ReadM Tryz.prog 0 82 tR [.nil, .n (15000), .n 0, .s uuid0, .nil, .n 1, .nil] fl gR := by
  refine root Tryz.func82 (by kernel_rfl) rfl rfl rfl ?_ dR (fun _ => rfl) readerT (by kernel_rfl) (by kernel_rfl) (isL_cons (isL_cons (isL_cons (isL_cons (isL_cons (isL_cons (isL_cons isL_nil))))))) (by decide)
  refine bdy_fl ?_ (by decide)
  refine Run.cons (m := 11) (o' := 2) ?_ ?_ rfl (by decide) (by decide) (isL_cons (isL_cons (isL_cons (isL_cons (isL_cons (isL_cons isL_nil))))))
  · skip
    exact (fld_var (fld_asg (asg_flex (u := 9) (asg_uns (asg_call mUnsafeCompactNullableString (by decide)) (asg_call mCompactNullableString (by decide)) (by decide)) (asg_uns (asg_call mUnsafeNullableString (by decide)) (asg_call mNullableString (by decide)) (by decide)) rfl (by decide)) (by kernel_rfl) (by kernel_rfl) rfl (by decide)) (by decide))
  refine Run.cons (m := 12) (o' := 3) ?_ ?_ rfl (by decide) (by decide) (isL_cons (isL_cons (isL_cons (isL_cons (isL_cons isL_nil)))))
  · skip
    exact (fld_asg (asg_call mInt32 (by decide)) (by kernel_rfl) (by kernel_rfl) rfl (by decide))
  refine Run.cons (m := 13) (o' := 4) ?_ ?_ rfl (by decide) (by decide) (isL_cons (isL_cons (isL_cons (isL_cons isL_nil))))
  · skip
    exact (fld_asg (asg_call mInt32 (by decide)) (by kernel_rfl) (by kernel_rfl) rfl (by decide))
  refine Run.cons (m := 14) (o' := 20) ?_ ?_ rfl (by decide) (by decide) (isL_cons (isL_cons (isL_cons isL_nil)))
  · skip
    exact (fld_uuid mUuid uuidT (by kernel_rfl) (by decide))
  refine Run.cons (m := 15) (o' := 21) ?_ ?_ rfl (by decide) (by decide) (isL_cons (isL_cons isL_nil))
  · skip
    refine fld_arr (m' := 19) (e0 := 114) (bs := 48) okM completeM (asg_flex (u := 9) (asg_call mCompactArrayLen (by decide)) (asg_call mArrayLen (by decide)) rfl (by decide)) ?_ (by kernel_rfl) (by decide) (by kernel_rfl) (by kernel_rfl) (by kernel_rfl) (zeroB_is (z := [.string ⟨#[]⟩, .string ⟨#[]⟩, .int .u16 0, .map none]) (by kernel_rfl)) rfl rfl (by decide)
    refine elt_st (m' := 21) (et := 114) (z0 := [.s [], .s [], .n 0, .nil]) (bs := 48) ?_ dListener ?_ (by kernel_rfl) (by decide)
    · skip
      refine Fld.cons (m := 21) (m' := 22) (o' := 1) ?_ ?_ rfl (by decide) (by decide) (by decide)
      · skip
        exact (fld_var (fld_asg (asg_uns (asg_flex (u := 9) (asg_call mUnsafeCompactString (by decide)) (asg_call mUnsafeString (by decide)) rfl (by decide)) (asg_flex (u := 9) (asg_call mCompactString (by decide)) (asg_call mString (by decide)) rfl (by decide)) (by decide)) (by kernel_rfl) (by kernel_rfl) rfl (by decide)) (by decide))
      refine Fld.cons (m := 22) (m' := 23) (o' := 2) ?_ ?_ rfl (by decide) (by decide) (by decide)
      · skip
        exact (fld_var (fld_asg (asg_uns (asg_flex (u := 9) (asg_call mUnsafeCompactString (by decide)) (asg_call mUnsafeString (by decide)) rfl (by decide)) (asg_flex (u := 9) (asg_call mCompactString (by decide)) (asg_call mString (by decide)) rfl (by decide)) (by decide)) (by kernel_rfl) (by kernel_rfl) rfl (by decide)) (by decide))
      refine Fld.cons (m := 23) (m' := 120) (o' := 3) ?_ ?_ rfl (by decide) (by decide) (by decide)
      · skip
        exact (fld_asg (asg_call mUint16 (by decide)) (by kernel_rfl) (by kernel_rfl) rfl (by decide))
      refine Fld.one ?_
      exact (fld_tags (tf := 9) mTags (flatB_is (by kernel_rfl)) (by kernel_rfl) rfl (by decide))
    · exact fun w => reps_zero tListener
  refine Run.cons (m := 24) (o' := 22) ?_ ?_ rfl (by decide) (by decide) (isL_cons isL_nil)
  · skip
    exact (fld_if (fld_asg (asg_call mBool (by decide)) (by kernel_rfl) (by kernel_rfl) rfl (by decide)) (fun i => rfl) (by decide))
  refine Run.cons (m := 137) (o' := 23) ?_ ?_ rfl (by decide) (by decide) isL_nil
  · skip
    exact (fld_tags (tf := 9) mTags (flatB_is (by kernel_rfl)) (by kernel_rfl) rfl (by decide))
  exact run_end completeM (by decide)
def gsListener : List (V → T) := [tStr, tStr, tNum]
def tgListener (x : V) : T := .mk 0 [] false (tellAll gsListener (x.items.drop 0)) (uOf gsListener (x.items.drop 0))
theorem cbListener : CbM Tryz.prog 130 := cb_m (et := 5) (TL := 34) (bs := 32) Tryz.func130 (by kernel_rfl) rfl rfl rfl (by kernel_rfl) treeT (by kernel_rfl) (by kernel_rfl) (by decide) tagF tagT (by kernel_rfl) octT
theorem tlListener : TellM Tryz.prog 84 (.st (tListener)) tgListener := by
  refine tell_root (pre := []) (tys := tListener) (st := 3) (m := 4) treeT Tryz.func84 (by kernel_rfl) rfl rfl rfl ?_ rfl rfl (by decide) (by decide)
  refine TRun.cons (o' := 1) (tl_str treeT (by kernel_rfl) (by kernel_rfl) (by kernel_rfl) (by kernel_rfl) (by kernel_rfl) (by decide)) ?_ rfl (by decide)
  refine TRun.cons (o' := 2) (tl_str treeT (by kernel_rfl) (by kernel_rfl) (by kernel_rfl) (by kernel_rfl) (by kernel_rfl) (by decide)) ?_ rfl (by decide)
  refine TRun.cons (o' := 3) (tl_num treeT (by kernel_rfl) (by kernel_rfl) (by kernel_rfl) (by kernel_rfl) (by kernel_rfl) (by decide) (by decide)) ?_ rfl (by decide)
  exact TRun.tags treeT eachM cbListener sortedM (by kernel_rfl) (by kernel_rfl) (by decide)
def gsR : List (V → T) := [tText, tNum, tNum, tUuid, fun x => .mk 0 [] x.isNil (x.items.map tgListener) [], tBool]
def tgR (x : V) : T := .mk 0 [] false (tellAll gsR (x.items.drop 1)) (uOf gsR (x.items.drop 1))
theorem cbR : CbM Tryz.prog 86 := cb_m (et := 5) (TL := 34) (bs := 32) Tryz.func86 (by kernel_rfl) rfl rfl rfl (by kernel_rfl) treeT (by kernel_rfl) (by kernel_rfl) (by decide) tagF tagT (by kernel_rfl) octT
theorem tlR : TellM Tryz.prog 47 (.st (.int .i16 :: tR)) tgR := by
  refine tell_root (pre := [.int .i16]) (tys := tR) (st := 3) (m := 4) treeT Tryz.func47 (by kernel_rfl) rfl rfl rfl ?_ rfl rfl (by decide) (by decide)
  refine TRun.cons (o' := 2) (tl_fn treeT textM (by kernel_rfl) (by kernel_rfl) (by kernel_rfl) rfl (by decide)) ?_ rfl (by decide)
  refine TRun.cons (o' := 3) (tl_num treeT (by kernel_rfl) (by kernel_rfl) (by kernel_rfl) (by kernel_rfl) (by kernel_rfl) (by decide) (by decide)) ?_ rfl (by decide)
  refine TRun.cons (o' := 4) (tl_num treeT (by kernel_rfl) (by kernel_rfl) (by kernel_rfl) (by kernel_rfl) (by kernel_rfl) (by decide) (by decide)) ?_ rfl (by decide)
  refine TRun.cons (o' := 20) (tl_uuid treeT (by kernel_rfl) (by kernel_rfl) uuidT (by kernel_rfl) octT (by decide)) ?_ rfl (by decide)
  refine TRun.cons2 (o' := 21) (tl_null treeT (by kernel_rfl) (by kernel_rfl) (by kernel_rfl) (by kernel_rfl) (by kernel_rfl) (by decide)) (tl_loop (m2 := 61) treeT (app_call1 treeT tlListener rfl (by kernel_rfl) (by kernel_rfl) (by kernel_rfl) (by kernel_rfl) (by decide)) (app_call2 treeT tlListener (by kernel_rfl) (by kernel_rfl) (by kernel_rfl) (by kernel_rfl) (by decide)) boolT (by kernel_rfl) (by kernel_rfl) (by kernel_rfl) (by kernel_rfl) (by kernel_rfl) (by decide)) ?_ rfl (by decide)
  refine TRun.cons (o' := 22) (tl_fn treeT boolM (by kernel_rfl) (by kernel_rfl) (by kernel_rfl) rfl (by decide)) ?_ rfl (by decide)
  exact TRun.tags treeT eachM cbR sortedM (by kernel_rfl) (by kernel_rfl) (by decide)
def gaAddRaftVoterRequestListener (ver : Int) : List (V → List UInt8) := [fun x => if decide (ver ≥ 0) then apCStr x else apStr x, fun x => if decide (ver ≥ 0) then apCStr x else apStr x, apInt 2, fun x => if decide (ver ≥ 0) then apTags x else []]
def gaAddRaftVoterRequest (ver : Int) : List (V → List UInt8) := [fun x => if decide (ver ≥ 0) then apCNStr x else apNStr x, apInt 4, apInt 4, apUuid, fun x => (if decide (ver ≥ 0) then apCLen x.items.length else apLen x.items.length) ++ (x.items.map (apSt (gaAddRaftVoterRequestListener ver))).flatten, fun x => if decide (ver ≥ 1) then (apBool) x else [], fun x => if decide (ver ≥ 0) then apTags x else []]
theorem plListener (ver : Int) (hv : 0 ≤ ver) (t : T) (hk : KeysOk t) : InvL gListener ver (decide (ver ≥ 0)) (gaAddRaftVoterRequestListener ver) (partW fssAddRaftVoterRequestListener ver (decide (ver ≥ 0)) t) := by
  refine inv_part (by kernel_rfl) ?_
  refine invb_cons (inv_has (has_all hv (by decide) (by decide)) (invf_str (by decide))) ?_
  refine invb_cons (inv_has (has_all hv (by decide) (by decide)) (invf_str (by decide))) ?_
  refine invb_cons (inv_has (has_all hv (by decide) (by decide)) invf_u16) ?_
  exact invb_nil (inv_tagend hk)
theorem poListener (ver : Int) (hv : 0 ≤ ver) (t : T) : 1 ≤ (partW fssAddRaftVoterRequestListener ver (decide (ver ≥ 0)) t).length := part_pos (by kernel_rfl) (body_head (has_all hv (by decide) (by decide)) (fieldW_pos (by decide)))
theorem plR (ver : Int) (hv : 0 ≤ ver) (t : T) (hk : KeysOk t) : InvL gR ver (decide (ver ≥ 0)) (gaAddRaftVoterRequest ver) (partW fsAddRaftVoterRequest ver (decide (ver ≥ 0)) t) := by
  refine inv_part (by kernel_rfl) ?_
  refine invb_cons (inv_has (has_all hv (by decide) (by decide)) invf_pstr) ?_
  refine invb_cons (inv_has (has_all hv (by decide) (by decide)) invf_i32) ?_
  refine invb_cons (inv_has (has_all hv (by decide) (by decide)) invf_i32) ?_
  refine invb_cons (inv_has (has_all hv (by decide) (by decide)) invf_uuid) ?_
  refine invb_cons (inv_has (has_all hv (by decide) (by decide)) (invf_arr (by decide) (fun z hz => inv_el (plListener ver hv z ((KeysOk.at hk.l 4).l z hz))) (fun z => value_pos10 (poListener ver hv z)))) ?_
  refine invb_cons (inv_gate (p := fun v => decide (v ≥ 1)) (has_ge (by decide)) invf_bool) ?_
  exact invb_nil (inv_tagend hk)
theorem setM : SetM Tryz.prog 44 := set_m Tryz.func44 (by kernel_rfl) rfl rfl rfl (by kernel_rfl) (by kernel_rfl)
theorem newM : NewM Tryz.prog 41 (.int .i16 :: tR) [.n 0, .nil, .n (15000), .n 0, .s uuid0, .nil, .n 1, .nil] := new_m (d := (fun xs => ((xs.set 2 (.n (15000))).set 6 (.n 1)))) Tryz.func41 (by kernel_rfl) rfl rfl rfl (zeroB_is (by kernel_rfl)) dR (by decide)
theorem maxM : MaxM Tryz.prog 16 1 := maxd_m (tys := .int .i16 :: tR) (ds := [.n 0, .nil, .n (15000), .n 0, .s uuid0, .nil, .n 1, .nil]) (mx := ((1 : Nat) : Int)) (fmx := 42) (fnw := 41) (f := 16) (P := Tryz.prog) Tryz.func16 (by kernel_rfl) rfl rfl rfl newM (maxv_m Tryz.func42 (by kernel_rfl) rfl rfl rfl) (by decide) (by kernel_rfl) (by kernel_rfl)
theorem rd1 : ReadD Tryz.prog 0 45 tR [.nil, .n (15000), .n 0, .s uuid0, .nil, .n 1, .nil] fl gR := read_d rf Tryz.func45 (by kernel_rfl) rfl rfl rfl
theorem dA : DefMA Tryz.prog 46 (.int .i16 :: tR) (fun xs => ((xs.set 2 (.n (15000))).set 6 (.n 1))) := def_setsA (N := 8) Tryz.func46 (by kernel_rfl) rfl rfl (by decide) rfl (DRunA.cons (DRunA.one (i := 2) (ty := .int .i32) (x := .n (15000)) (by kernel_rfl) (by kernel_rfl) rfl rfl rfl rfl (fun w => ⟨_, rfl, rfl, by decide, by decide⟩) (by decide)) (DRunA.one (i := 6) (ty := .bool) (x := .n 1) (by kernel_rfl) (by kernel_rfl) rfl rfl rfl rfl (fun w => ⟨true, rfl, rfl⟩) (by decide)))
theorem door : DoorGM Tryz.prog 0 18 (doorResD gR fl (fun xs => ((xs.set 2 (.n (15000))).set 6 (.n 1))) tgR) := doord_m (te := 5) Tryz.func18 (by kernel_rfl) rfl rfl rfl treeT.flat (by kernel_rfl) (zeroB_is (by kernel_rfl)) (by kernel_rfl) (by kernel_rfl) (by kernel_rfl) newM setM rd1 dA tlR
theorem nR : IsN gR 7 := (isN_cons (isL_cons (isL_cons (isL_cons (isL_cons (isL_cons (isL_cons isL_nil)))))) (isN_cons (isL_cons (isL_cons (isL_cons (isL_cons (isL_cons isL_nil))))) (isN_cons (isL_cons (isL_cons (isL_cons (isL_cons isL_nil)))) (isN_cons (isL_cons (isL_cons (isL_cons isL_nil))) (isN_cons (isL_cons (isL_cons isL_nil)) (isN_cons (isL_cons isL_nil) (isN_cons isL_nil isN_nil)))))))
def small (t : T) : Prop := KeysOk t ∧ ∀ ver flex, (partW fsAddRaftVoterRequest ver flex t).length ≤ 2147483648
theorem df (ver : Int) (xs : List V) (hn : xs.length = 7) : ∀ (j : Nat) (fd : Kq.Fd), fsAddRaftVoterRequest[j]? = some fd → fd.df ≠ 0 → (atT (tgR (.l ((fun xs => ((xs.set 2 (.n (15000))).set 6 (.n 1))) (.n ver :: xs)))).l j).n = numW fd.kind fd.df := by
  match xs, hn with
  | [x0, x1, x2, x3, x4, x5, x6], _ =>
    intro j fd hj hd
    match j, hj with
    | 0, hj => cases hj; first | exact absurd rfl hd | rfl | decide
    | 1, hj => cases hj; first | exact absurd rfl hd | rfl | decide
    | 2, hj => cases hj; first | exact absurd rfl hd | rfl | decide
    | 3, hj => cases hj; first | exact absurd rfl hd | rfl | decide
    | 4, hj => cases hj; first | exact absurd rfl hd | rfl | decide
    | 5, hj => cases hj; first | exact absurd rfl hd | rfl | decide
    | j + 6, hj => simp [fsAddRaftVoterRequest] at hj
theorem law : LawT Tryz.prog 0 4 small := by
  refine lawd_m (mx := 1) (fs := fsAddRaftVoterRequest) (enc := partW fsAddRaftVoterRequest) Tryz.func4 (by kernel_rfl) rfl rfl rfl (flatB_is (by kernel_rfl)) (flatB_is (by kernel_rfl)) (flatB_is (by kernel_rfl)) (by kernel_rfl) (by kernel_rfl) (by kernel_rfl) wFit maxM (by decide) ifsAddRaftVoterRequest verM (wWrite fsAddRaftVoterRequest (by decide)) door (⟨enters_of Tryz.func15 (by kernel_rfl) rfl, gotM⟩) (dfM fsAddRaftVoterRequest) ?_
  rintro ver h0 h1 t ⟨hk, hs⟩
  refine ⟨hs _ _, ?_⟩
  rw [show (decide ((0 : Int) ≥ 0) && decide (ver ≥ 0)) = fl ver from by simp [fl]]
  obtain ⟨xs, h3, h4⟩ := dd_plain (fl := fl) (d := (fun xs => ((xs.set 2 (.n (15000))).set 6 (.n 1)))) (tell := tgR) (plR ver h0 t hk) nR
  have h5 : doorResD gR fl (fun xs => ((xs.set 2 (.n (15000))).set 6 (.n 1))) tgR ver (partW fsAddRaftVoterRequest ver (fl ver) t) = _ := h4
  rw [h5]
  exact ⟨rfl, df ver xs h3⟩
end Go.Proofs.YtdjknhnjjglalaaGreatDoor.AddRaftVoterRequest
