/- What AppendTo of HeartbeatRequest appends. Printed by gen_app.py. -/
import Derived.Test.YtehjpmchanlebaaGreatDoorKqSap
import Derived.Test.YtehjpmchanlebaaGreatDoorKqP06
set_option linter.unusedVariables false
set_option linter.unusedSimpArgs false
namespace Go.Proofs.YtehjpmchanlebaaGreatDoor.HeartbeatRequest
open Go.Kq
def tHeartbeatRequestR : List Ty := [.str, .int .i32, .str, .pstr, .tags]
def gaHeartbeatRequest (ver : Int) : List (V → List UInt8) := [fun x => if decide (ver ≥ 4) then apCStr x else apStr x, apInt 4, fun x => if decide (ver ≥ 4) then apCStr x else apStr x, fun x => if decide (ver ≥ 3) then (fun x => if decide (ver ≥ 4) then apCNStr x else apNStr x) x else [], fun x => if decide (ver ≥ 4) then apTags x else []]
set_option maxRecDepth 20000 in
theorem app (ver : Int) : AppM Tryz.prog 27 (.st (.int .i16 :: tHeartbeatRequestR)) (apSt ((fun _ => []) :: gaHeartbeatRequest ver)) ver := by
  refine app_root (N := 76) (ver := ver) Tryz.func27 (by kernel_rfl) rfl rfl rfl (by decide) ?_
  intro e pb po hB hv xs hx
  refine ApR.asg rfl (ApR.load (s := 0) (pb := pb) (po := po) (o := 0) (by simp) (by kernel_rfl) (by kernel_rfl) hv hB rfl (ApR.nop rfl (ApR.flag (s := 5) (i := ver) (by simp) rfl rfl (ApR.nop rfl ?_))))
  refine (show ApSR _ _ _ e _ _ pb (po + 1) tHeartbeatRequestR (gaHeartbeatRequest ver) from ?_) xs hx
  clear hx xs
  refine ApSR.cons (o' := po + 2) rfl (fun x hx => ?_) ?_
  · refine af_load (g := fun x => if decide (ver ≥ 4) then apCStr x else apStr x) (x := x) (s := 0) (pb := pb) (po := po) (o := 1) (by simp) (by kernel_rfl) (by kernel_rfl) hB rfl rfl (fun cv x hr => ?_) hx
    clear hx
    exact ApC.two (s := 6) (by simp) rfl (fun _ => ak_call (L := 7) (Leaf.str sCStr) hr (by simp) rfl) (fun _ => ak_call (L := 7) (Leaf.str sStr) hr (by simp) rfl)
  refine ApSR.cons (o' := po + 3) rfl (fun x hx => ?_) ?_
  · refine af_load (g := apInt 4) (x := x) (s := 0) (pb := pb) (po := po) (o := 2) (by simp) (by kernel_rfl) (by kernel_rfl) hB rfl rfl (fun cv x hr => ?_) hx
    clear hx
    exact ak_call (L := 8) (Leaf.int sI32) hr (by simp) rfl
  refine ApSR.cons (o' := po + 4) rfl (fun x hx => ?_) ?_
  · refine af_load (g := fun x => if decide (ver ≥ 4) then apCStr x else apStr x) (x := x) (s := 0) (pb := pb) (po := po) (o := 3) (by simp) (by kernel_rfl) (by kernel_rfl) hB rfl rfl (fun cv x hr => ?_) hx
    clear hx
    exact ApC.two (s := 6) (by simp) rfl (fun _ => ak_call (L := 9) (Leaf.str sCStr) hr (by simp) rfl) (fun _ => ak_call (L := 9) (Leaf.str sStr) hr (by simp) rfl)
  refine ApSR.cons (o' := po + 5) rfl (fun x hx => ?_) ?_
  · refine ApC.on (s := 5) (i := ver) (by simp) rfl rfl (fun _ => ?_)
    refine af_load (g := fun x => if decide (ver ≥ 4) then apCNStr x else apNStr x) (x := x) (s := 0) (pb := pb) (po := po) (o := 4) (by simp) (by kernel_rfl) (by kernel_rfl) hB rfl rfl (fun cv x hr => ?_) hx
    clear hx
    exact ApC.two (s := 6) (by simp) rfl (fun _ => ak_call (L := 10) (Leaf.pstr sCNStr) hr (by simp) rfl) (fun _ => ak_call (L := 10) (Leaf.pstr sNStr) hr (by simp) rfl)
  refine ApSR.cons (o' := po + 6) rfl (fun x hx => ?_) ?_
  · refine ApC.onB (s := 6) (by simp) rfl (fun _ => ?_)
    exact ApC.fits fun hf => ApC.seq (ApC.tags1 (s := 0) (pb := pb) (po := po) (o := 5) (by simp) (by kernel_rfl) hx hB tagLenM sUv (by kernel_rfl) (by kernel_rfl) (tags_small hf) rfl) (ApC.tags2 (s := 0) (pb := pb) (po := po) (o := 5) (by simp) (by kernel_rfl) hx hB tagEachM rfl)
  exact ApSR.nil (ApR.ret (by decide))
end Go.Proofs.YtehjpmchanlebaaGreatDoor.HeartbeatRequest
