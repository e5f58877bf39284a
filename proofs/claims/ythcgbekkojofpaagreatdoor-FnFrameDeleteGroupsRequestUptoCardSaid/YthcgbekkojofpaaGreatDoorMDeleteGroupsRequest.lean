/- The parts of the law on DeleteGroupsRequest. Printed by gen_msg.py. -/
import Derived.Test.YthcgbekkojofpaaGreatDoorPDeleteGroupsRequest
import Derived.Test.YthcgbekkojofpaaGreatDoorCDeleteGroupsRequest
import Derived.Test.YthcgbekkojofpaaGreatDoorKqCoF
import Derived.Test.YthcgbekkojofpaaGreatDoorKqP06
set_option linter.unusedVariables false
set_option linter.unusedSimpArgs false
namespace Go.Proofs.YthcgbekkojofpaaGreatDoor.DeleteGroupsRequest
open Go.Kq
def tR : List Ty := [.arr .str, .tags]
def gR : Rd := (rdCons (rdArr (fun _ fl st => if fl then gCALen st else gALen st) (rdOne fun _ fl st => if fl then gCStr st else gStr st)) (rdCons rdTagsF rdSt0))
theorem dR : DefM Tryz.prog 49 (.int .i16 :: tR) id := def_skip Tryz.func49 (by kernel_rfl) (by kernel_rfl) (by kernel_rfl)
def fl : Int → Bool := fun v => decide (v ≥ 2)
set_option maxRecDepth 20000 in
theorem rf : ReadM Tryz.prog 0 58 tR [.nil, .nil] fl gR := by
  refine root Tryz.func58 (by kernel_rfl) rfl rfl rfl ?_ dR (fun _ => rfl) readerT (by kernel_rfl) (by kernel_rfl) (isL_cons (isL_cons isL_nil)) (by decide);refine bdy_fl ?_ (by decide);refine Run.cons (m := 11) (o' := 2) ?_ ?_ rfl (by decide) (by decide) (isL_cons isL_nil)
  · skip
    refine fld_arr (m' := 15) (e0 := 9) (bs := 16) okM completeM (asg_flex (u := 9) (asg_call mCompactArrayLen (by decide)) (asg_call mArrayLen (by decide)) rfl (by decide)) ?_ (by kernel_rfl) (by decide) (by kernel_rfl) (by kernel_rfl) (by kernel_rfl) (zeroB_is (z := [.string ⟨#[]⟩]) (by kernel_rfl)) rfl rfl (by decide);exact elt_var (elt_one (m' := 15) (et := 9) (bs := 16) (asg_uns (asg_flex (u := 9) (asg_call mUnsafeCompactString (by decide)) (asg_call mUnsafeString (by decide)) rfl (by decide)) (asg_flex (u := 9) (asg_call mCompactString (by decide)) (asg_call mString (by decide)) rfl (by decide)) (by decide)) (by kernel_rfl) (by kernel_rfl) rfl (by decide)) (by decide)
  refine Run.cons (m := 68) (o' := 3) ?_ ?_ rfl (by decide) (by decide) isL_nil
  · skip
    exact (fld_tags (tf := 9) mTags (flatB_is (by kernel_rfl)) (by kernel_rfl) rfl (by decide))
  exact run_end completeM (by decide)
theorem setM : SetM Tryz.prog 30 := set_m Tryz.func30 (by kernel_rfl) rfl rfl rfl (by kernel_rfl) (by kernel_rfl)
theorem newM : NewM Tryz.prog 27 (.int .i16 :: tR) [.n 0, .nil, .nil] := new_m (d := id) Tryz.func27 (by kernel_rfl) rfl rfl rfl (zeroB_is (by kernel_rfl)) dR (by decide)
theorem maxM : MaxM Tryz.prog 9 3 := maxd_m (tys := .int .i16 :: tR) (ds := [.n 0, .nil, .nil]) (mx := ((3 : Nat) : Int)) (fmx := 28) (fnw := 27) (f := 9) (P := Tryz.prog) Tryz.func9 (by kernel_rfl) rfl rfl rfl newM (maxv_m Tryz.func28 (by kernel_rfl) rfl rfl rfl) (by decide) (by kernel_rfl) (by kernel_rfl)
theorem rd1 : ReadD Tryz.prog 0 31 tR [.nil, .nil] fl gR := read_d rf Tryz.func31 (by kernel_rfl) rfl rfl rfl
theorem keyM : KeyM Tryz.prog 126 42 := key_m Tryz.func126 (by kernel_rfl) rfl rfl rfl
theorem getvM : GetVM Tryz.prog 124 := getv_m Tryz.func124 (by kernel_rfl) rfl rfl rfl (by kernel_rfl) (by kernel_rfl)
theorem flxM : FlxM Tryz.prog 125 fl := flx_m (kx := 2) Tryz.func125 (by kernel_rfl) rfl rfl rfl (by kernel_rfl) (by kernel_rfl)
theorem reqM : ReqM Tryz.prog 46 tR (fun ver => apSt ((fun _ => []) :: gaQ ver)) 42 fl := ⟨⟨123, (by kernel_rfl), app⟩, ⟨126, (by kernel_rfl), keyM⟩, ⟨124, (by kernel_rfl), getvM⟩, ⟨125, (by kernel_rfl), flxM⟩⟩
theorem appReq : AppReqM Tryz.prog 61 46 tR (fun ver => apSt ((fun _ => []) :: gaQ ver)) 42 fl := appreq_m (te := 5) Tryz.func61 (by kernel_rfl) rfl rfl rfl (by kernel_rfl) octT (by kernel_rfl) (by kernel_rfl) (by kernel_rfl) (by kernel_rfl) (by kernel_rfl) (by kernel_rfl) (by kernel_rfl) (by decide) (by decide) reqM sI16 sI32 oI32 sNStr
theorem framedM : FramedM Tryz.prog 32 46 tR (fun ver => apSt ((fun _ => []) :: gaQ ver)) 42 fl := framed_m (te := 89) (tb := 16) Tryz.func32 (by kernel_rfl) rfl rfl rfl (flatB_is (by kernel_rfl)) (by kernel_rfl) (by kernel_rfl) (by kernel_rfl) newFM clientM appReq
theorem door : FrxM Tryz.prog 0 13 (behRes gR fl (fun ver => apSt ((fun _ => []) :: gaQ ver))) 42 fl := framex_m (te := 5) Tryz.func13 (by kernel_rfl) rfl rfl rfl (by kernel_rfl) octT (by kernel_rfl) (by kernel_rfl) (by kernel_rfl) (flatB_is (by kernel_rfl)) (by kernel_rfl) newM setM rd1 framedM
theorem plR (ver : Int) (hv : 0 ≤ ver) (t : T) (hk : KeysOk t) : InvL gR ver (decide (ver ≥ 2)) (gaQ ver) (partW fsQ ver (decide (ver ≥ 2)) t) := by
  refine inv_part (by kernel_rfl) ?_;refine invb_cons (inv_has (has_all hv (by decide) (by decide)) (invf_arr (by decide) (fun z hz => inv_el_str) (fun z => value_pos (by decide)))) ?_;exact invb_nil (inv_tagend hk)
def small (t : T) : Prop := KeysOk t ∧ ∀ ver flex, (partW fsQ ver flex t).length ≤ 2147483648
theorem law : LawF Tryz.prog 0 3 small := by
  refine lawf_m (mx := 3) (fs := fsQ) (enc := partW fsQ) Tryz.func3 (by kernel_rfl) rfl rfl rfl (flatB_is (by kernel_rfl)) (flatB_is (by kernel_rfl)) (flatB_is (by kernel_rfl)) (by kernel_rfl) (by kernel_rfl) (by kernel_rfl) (by kernel_rfl) (by kernel_rfl) (by kernel_rfl) fit4 wFit maxM (by decide) ifsQ verM (wWrite fsQ (by decide)) door flexM frameS sameM (fun ver _ _ => by simp [fl]) ?_;rintro ver h0 h1 t ⟨hk, hs⟩;refine ⟨hs _ _, ?_⟩;rw [show (decide ((2 : Int) ≥ 0) && decide (ver ≥ 2)) = fl ver from by simp [fl]];exact beh_plain (plR ver h0 t hk)
end Go.Proofs.YthcgbekkojofpaaGreatDoor.DeleteGroupsRequest
