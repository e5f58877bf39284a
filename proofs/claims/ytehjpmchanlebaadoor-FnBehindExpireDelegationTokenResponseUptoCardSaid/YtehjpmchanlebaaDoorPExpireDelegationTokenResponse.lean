/- What AppendTo of ExpireDelegationTokenResponse appends. Printed by gen_app.py. -/
import Derived.Test.YtehjpmchanlebaaDoorKqSap
import Derived.Test.YtehjpmchanlebaaDoorKqP06
set_option linter.unusedVariables false
set_option linter.unusedSimpArgs false
namespace Go.Proofs.YtehjpmchanlebaaDoor.ExpireDelegationTokenResponse
open Go.Kq
def tExpireDelegationTokenResponseR : List Ty := [.int .i16, .int .i64, .int .i32, .tags]
def gaExpireDelegationTokenResponse (ver : Int) : List (V → List UInt8) := [apInt 2, apInt 8, apInt 4, fun x => if decide (ver ≥ 2) then apTags x else []]
set_option maxRecDepth 20000 in
theorem app (ver : Int) : AppM Tryd.prog 34 (.st (.int .i16 :: tExpireDelegationTokenResponseR)) (apSt ((fun _ => []) :: gaExpireDelegationTokenResponse ver)) ver := by
  refine app_root (N := 54) (ver := ver) Tryd.func34 (by kernel_rfl) rfl rfl rfl (by decide) ?_
  intro e pb po hB hv xs hx
  refine ApR.asg rfl (ApR.load (s := 0) (pb := pb) (po := po) (o := 0) (by simp) (by kernel_rfl) (by kernel_rfl) hv hB rfl (ApR.nop rfl (ApR.flag (s := 5) (i := ver) (by simp) rfl rfl (ApR.nop rfl ?_))))
  refine (show ApSR _ _ _ e _ _ pb (po + 1) tExpireDelegationTokenResponseR (gaExpireDelegationTokenResponse ver) from ?_) xs hx
  clear hx xs
  refine ApSR.cons (o' := po + 2) rfl (fun x hx => ?_) ?_
  · refine af_load (g := apInt 2) (x := x) (s := 0) (pb := pb) (po := po) (o := 1) (by simp) (by kernel_rfl) (by kernel_rfl) hB rfl rfl (fun cv x hr => ?_) hx
    clear hx
    exact ak_call (L := 7) (Leaf.int sI16) hr (by simp) rfl
  refine ApSR.cons (o' := po + 3) rfl (fun x hx => ?_) ?_
  · refine af_load (g := apInt 8) (x := x) (s := 0) (pb := pb) (po := po) (o := 2) (by simp) (by kernel_rfl) (by kernel_rfl) hB rfl rfl (fun cv x hr => ?_) hx
    clear hx
    exact ak_call (L := 8) (Leaf.int sI64) hr (by simp) rfl
  refine ApSR.cons (o' := po + 4) rfl (fun x hx => ?_) ?_
  · refine af_load (g := apInt 4) (x := x) (s := 0) (pb := pb) (po := po) (o := 3) (by simp) (by kernel_rfl) (by kernel_rfl) hB rfl rfl (fun cv x hr => ?_) hx
    clear hx
    exact ak_call (L := 9) (Leaf.int sI32) hr (by simp) rfl
  refine ApSR.cons (o' := po + 5) rfl (fun x hx => ?_) ?_
  · refine ApC.onB (s := 6) (by simp) rfl (fun _ => ?_)
    exact ApC.fits fun hf => ApC.seq (ApC.tags1 (s := 0) (pb := pb) (po := po) (o := 4) (by simp) (by kernel_rfl) hx hB tagLenM sUv (by kernel_rfl) (by kernel_rfl) (tags_small hf) rfl) (ApC.tags2 (s := 0) (pb := pb) (po := po) (o := 4) (by simp) (by kernel_rfl) hx hB tagEachM rfl)
  exact ApSR.nil (ApR.ret (by decide))
end Go.Proofs.YtehjpmchanlebaaDoor.ExpireDelegationTokenResponse
