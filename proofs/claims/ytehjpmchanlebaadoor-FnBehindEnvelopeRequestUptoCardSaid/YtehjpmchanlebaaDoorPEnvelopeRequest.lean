/- What AppendTo of EnvelopeRequest appends. Printed by gen_app.py. -/
import Derived.Test.YtehjpmchanlebaaDoorKqSap
import Derived.Test.YtehjpmchanlebaaDoorKqP05
set_option linter.unusedVariables false
set_option linter.unusedSimpArgs false
namespace Go.Proofs.YtehjpmchanlebaaDoor.EnvelopeRequest
open Go.Kq
def tEnvelopeRequestR : List Ty := [.bytes, .bytes, .bytes, .tags]
def gaEnvelopeRequest (ver : Int) : List (V → List UInt8) := [fun x => if decide (ver ≥ 0) then apCBytes x else apBytes x, fun x => if decide (ver ≥ 0) then apCNBytes x else apNBytes x, fun x => if decide (ver ≥ 0) then apCBytes x else apBytes x, fun x => if decide (ver ≥ 0) then apTags x else []]
set_option maxRecDepth 20000 in
theorem app (ver : Int) : AppM Tryd.prog 44 (.st (.int .i16 :: tEnvelopeRequestR)) (apSt ((fun _ => []) :: gaEnvelopeRequest ver)) ver := by
  refine app_root (N := 66) (ver := ver) Tryd.func44 (by kernel_rfl) rfl rfl rfl (by decide) ?_
  intro e pb po hB hv xs hx
  refine ApR.asg rfl (ApR.load (s := 0) (pb := pb) (po := po) (o := 0) (by simp) (by kernel_rfl) (by kernel_rfl) hv hB rfl (ApR.nop rfl (ApR.flag (s := 5) (i := ver) (by simp) rfl rfl (ApR.nop rfl ?_))))
  refine (show ApSR _ _ _ e _ _ pb (po + 1) tEnvelopeRequestR (gaEnvelopeRequest ver) from ?_) xs hx
  clear hx xs
  refine ApSR.cons (o' := po + 2) rfl (fun x hx => ?_) ?_
  · refine af_load (g := fun x => if decide (ver ≥ 0) then apCBytes x else apBytes x) (x := x) (s := 0) (pb := pb) (po := po) (o := 1) (by simp) (by kernel_rfl) (by kernel_rfl) hB rfl rfl (fun cv x hr => ?_) hx
    clear hx
    exact ApC.two (s := 6) (by simp) rfl (fun _ => ak_call (L := 7) (Leaf.bytes sCBytes) hr (by simp) rfl) (fun _ => ak_call (L := 7) (Leaf.bytes sBytes) hr (by simp) rfl)
  refine ApSR.cons (o' := po + 3) rfl (fun x hx => ?_) ?_
  · refine af_load (g := fun x => if decide (ver ≥ 0) then apCNBytes x else apNBytes x) (x := x) (s := 0) (pb := pb) (po := po) (o := 2) (by simp) (by kernel_rfl) (by kernel_rfl) hB rfl rfl (fun cv x hr => ?_) hx
    clear hx
    exact ApC.two (s := 6) (by simp) rfl (fun _ => ak_call (L := 8) (Leaf.bytes sCNBytes) hr (by simp) rfl) (fun _ => ak_call (L := 8) (Leaf.bytes sNBytes) hr (by simp) rfl)
  refine ApSR.cons (o' := po + 4) rfl (fun x hx => ?_) ?_
  · refine af_load (g := fun x => if decide (ver ≥ 0) then apCBytes x else apBytes x) (x := x) (s := 0) (pb := pb) (po := po) (o := 3) (by simp) (by kernel_rfl) (by kernel_rfl) hB rfl rfl (fun cv x hr => ?_) hx
    clear hx
    exact ApC.two (s := 6) (by simp) rfl (fun _ => ak_call (L := 9) (Leaf.bytes sCBytes) hr (by simp) rfl) (fun _ => ak_call (L := 9) (Leaf.bytes sBytes) hr (by simp) rfl)
  refine ApSR.cons (o' := po + 5) rfl (fun x hx => ?_) ?_
  · refine ApC.onB (s := 6) (by simp) rfl (fun _ => ?_)
    exact ApC.fits fun hf => ApC.seq (ApC.tags1 (s := 0) (pb := pb) (po := po) (o := 4) (by simp) (by kernel_rfl) hx hB tagLenM sUv (by kernel_rfl) (by kernel_rfl) (tags_small hf) rfl) (ApC.tags2 (s := 0) (pb := pb) (po := po) (o := 4) (by simp) (by kernel_rfl) hx hB tagEachM rfl)
  exact ApSR.nil (ApR.ret (by decide))
end Go.Proofs.YtehjpmchanlebaaDoor.EnvelopeRequest
