/- What AppendTo of ControlledShutdownRequest appends. Printed by gen_app.py. -/
import Derived.Test.YtmolcmgbadnggaaKqSaT
import Derived.Test.YtmolcmgbadnggaaKqP05
import Derived.Test.YtmolcmgbadnggaaKqP01
import Derived.Test.YtmolcmgbadnggaaKqP04
import Derived.Laws.IdiomCopy
set_option linter.unusedVariables false
set_option linter.unusedSimpArgs false
namespace Go.Proofs.Ytmolcmgbadnggaa.ControlledShutdownRequest
open Go.Kq
def tQR : List Ty := [.int .i32, .int .i64, .tags]
def gaQ (ver : Int) : List (V → List UInt8) := [apInt 4, fun x => if decide (ver ≥ 2) then (apInt 8) x else [], fun x => if decide (ver ≥ 3) then apTags x else []]
set_option maxRecDepth 20000 in
theorem app (ver : Int) : AppM Try.prog 41 (.st (.int .i16 :: tQR)) (apSt ((fun _ => []) :: gaQ ver)) ver := by
  refine app_root (N := 48) (ver := ver) Try.func41 (by kernel_rfl) rfl rfl rfl (by decide) ?_
  intro e pb po hB hv xs hx
  refine ApR.asg rfl (ApR.load (s := 0) (pb := pb) (po := po) (o := 0) (by simp) (by kernel_rfl) (by kernel_rfl) hv hB rfl (ApR.nop rfl (ApR.flag (s := 5) (i := ver) (by simp) rfl rfl (ApR.nop rfl ?_))))
  refine (show ApSR _ _ _ e _ _ pb (po + 1) tQR (gaQ ver) from ?_) xs hx
  clear hx xs
  refine ApSR.cons (o' := po + 2) rfl (fun x hx => ?_) ?_
  · refine af_load (g := apInt 4) (x := x) (s := 0) (pb := pb) (po := po) (o := 1) (by simp) (by kernel_rfl) (by kernel_rfl) hB rfl rfl (fun cv x hr => ?_) hx
    clear hx
    exact ak_call (L := 7) (Leaf.int sI32) hr (by simp) rfl
  refine ApSR.cons (o' := po + 3) rfl (fun x hx => ?_) ?_
  · refine ApC.on (s := 5) (i := ver) (by simp) rfl rfl (fun _ => ?_)
    refine af_load (g := apInt 8) (x := x) (s := 0) (pb := pb) (po := po) (o := 2) (by simp) (by kernel_rfl) (by kernel_rfl) hB rfl rfl (fun cv x hr => ?_) hx
    clear hx
    exact ak_call (L := 8) (Leaf.int sI64) hr (by simp) rfl
  refine ApSR.cons (o' := po + 4) rfl (fun x hx => ?_) ?_
  · refine ApC.onB (s := 6) (by simp) rfl (fun _ => ?_)
    exact ApC.fits fun hf => ApC.seq (ApC.tags1 (s := 0) (pb := pb) (po := po) (o := 3) (by simp) (by kernel_rfl) hx hB tagLenM sUv (by kernel_rfl) (by kernel_rfl) (tags_small hf) rfl) (ApC.tags2 (s := 0) (pb := pb) (po := po) (o := 3) (by simp) (by kernel_rfl) hx hB tagEachM rfl)
  exact ApSR.nil (ApR.ret (by decide))
end Go.Proofs.Ytmolcmgbadnggaa.ControlledShutdownRequest
