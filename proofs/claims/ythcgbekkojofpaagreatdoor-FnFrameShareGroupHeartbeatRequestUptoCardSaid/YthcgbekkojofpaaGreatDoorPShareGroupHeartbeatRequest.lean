/- What AppendTo of ShareGroupHeartbeatRequest appends. Printed by gen_app.py. -/
import Derived.Test.YthcgbekkojofpaaGreatDoorKqSap
import Derived.Test.YthcgbekkojofpaaGreatDoorKqP06
import Derived.Test.YthcgbekkojofpaaGreatDoorKqP02
import Derived.Test.YthcgbekkojofpaaGreatDoorKqP01
import Derived.Laws.IdiomCopy
set_option linter.unusedVariables false
set_option linter.unusedSimpArgs false
namespace Go.Proofs.YthcgbekkojofpaaGreatDoor.ShareGroupHeartbeatRequest
open Go.Kq
theorem sNLen : ApLN Tryz.prog 173 gNLen := ap_nlen (te := 5) Tryz.func173 (by kernel_rfl) rfl rfl rfl (by kernel_rfl) (by kernel_rfl) sI32
theorem sCNLen : ApLN Tryz.prog 172 gCNLen := ap_cnlen (te := 5) Tryz.func172 (by kernel_rfl) rfl rfl rfl (by kernel_rfl) (by kernel_rfl) sUv
def tQR : List Ty := [.str, .str, .int .i32, .pstr, .arr (.str), .tags]
def gaQ (ver : Int) : List (V → List UInt8) := [fun x => if decide (ver ≥ 0) then apCStr x else apStr x, fun x => if decide (ver ≥ 0) then apCStr x else apStr x, apInt 4, fun x => if decide (ver ≥ 0) then apCNStr x else apNStr x, fun x => (if decide (ver ≥ 0) then apCNLen x else apNLen x) ++ (x.items.map (fun x => if decide (ver ≥ 0) then apCStr x else apStr x)).flatten, fun x => if decide (ver ≥ 0) then apTags x else []]
set_option maxRecDepth 20000 in
theorem app (ver : Int) : AppM Tryz.prog 174 (.st (.int .i16 :: tQR)) (apSt ((fun _ => []) :: gaQ ver)) ver := by
  refine app_root (N := 111) (ver := ver) Tryz.func174 (by kernel_rfl) rfl rfl rfl (by decide) ?_;intro e pb po hB hv xs hx;refine ApR.asg rfl (ApR.load (s := 0) (pb := pb) (po := po) (o := 0) (by simp) (by kernel_rfl) (by kernel_rfl) hv hB rfl (ApR.nop rfl (ApR.flag (s := 5) (i := ver) (by simp) rfl rfl (ApR.nop rfl ?_))));refine (show ApSR _ _ _ e _ _ pb (po + 1) tQR (gaQ ver) from ?_) xs hx;clear hx xs;refine ApSR.cons (o' := po + 2) rfl (fun x hx => ?_) ?_
  · refine af_load (g := fun x => if decide (ver ≥ 0) then apCStr x else apStr x) (x := x) (s := 0) (pb := pb) (po := po) (o := 1) (by simp) (by kernel_rfl) (by kernel_rfl) hB rfl rfl (fun cv x hr => ?_) hx;clear hx;exact ApC.two (s := 6) (by simp) rfl (fun _ => ak_call (L := 7) (Leaf.str sCStr) hr (by simp) rfl) (fun _ => ak_call (L := 7) (Leaf.str sStr) hr (by simp) rfl)
  refine ApSR.cons (o' := po + 3) rfl (fun x hx => ?_) ?_
  · refine af_load (g := fun x => if decide (ver ≥ 0) then apCStr x else apStr x) (x := x) (s := 0) (pb := pb) (po := po) (o := 2) (by simp) (by kernel_rfl) (by kernel_rfl) hB rfl rfl (fun cv x hr => ?_) hx;clear hx;exact ApC.two (s := 6) (by simp) rfl (fun _ => ak_call (L := 8) (Leaf.str sCStr) hr (by simp) rfl) (fun _ => ak_call (L := 8) (Leaf.str sStr) hr (by simp) rfl)
  refine ApSR.cons (o' := po + 4) rfl (fun x hx => ?_) ?_
  · refine af_load (g := apInt 4) (x := x) (s := 0) (pb := pb) (po := po) (o := 3) (by simp) (by kernel_rfl) (by kernel_rfl) hB rfl rfl (fun cv x hr => ?_) hx;clear hx;exact ak_call (L := 9) (Leaf.int sI32) hr (by simp) rfl
  refine ApSR.cons (o' := po + 5) rfl (fun x hx => ?_) ?_
  · refine af_load (g := fun x => if decide (ver ≥ 0) then apCNStr x else apNStr x) (x := x) (s := 0) (pb := pb) (po := po) (o := 4) (by simp) (by kernel_rfl) (by kernel_rfl) hB rfl rfl (fun cv x hr => ?_) hx;clear hx;exact ApC.two (s := 6) (by simp) rfl (fun _ => ak_call (L := 10) (Leaf.pstr sCNStr) hr (by simp) rfl) (fun _ => ak_call (L := 10) (Leaf.pstr sNStr) hr (by simp) rfl)
  refine ApSR.cons (o' := po + 6) rfl (fun x hx => ?_) ?_
  · refine af_load (g := fun x => (if decide (ver ≥ 0) then apCNLen x else apNLen x) ++ (x.items.map (fun x => if decide (ver ≥ 0) then apCStr x else apStr x)).flatten) (x := x) (s := 0) (pb := pb) (po := po) (o := 5) (by simp) (by kernel_rfl) (by kernel_rfl) hB rfl rfl (fun cv x hr => ?_) hx;clear hx;refine ak_small (t := .str) (cv := cv) (ys := (x.items.map (fun x => if decide (ver ≥ 0) then apCStr x else apStr x)).flatten) (ak_items hr (fat_two (fat_any apCStr_pos) (fat_any apStr_pos))) (fun hn => ApC.seq (y1 := if decide (ver ≥ 0) then apCNLen x else apNLen x) (ApC.two (s := 6) (by simp) rfl (fun _ => ak_lenN (L := 11) sCNLen hr hn (by simp) (by kernel_rfl) (by kernel_rfl) rfl) (fun _ => ak_lenN (L := 11) sNLen hr hn (by simp) (by kernel_rfl) (by kernel_rfl) rfl)) (ak_loop (L := 11) (t := .str) (g := fun x => if decide (ver ≥ 0) then apCStr x else apStr x) hr (by simp) (by kernel_rfl) rfl (fun i y b o' ln cap hi hL hB' hy => ?_))) ((two_pos (apCNLen_pos _) (apNLen_pos _)));obtain ⟨cv', hc', hr'⟩ := hy.one rfl;refine ApC.elemV (L := 11) (s := 81) (m := 13) (I' := 12) (b := b) (o := o') (i := i) (cv := cv') (et := 9) (bs := 16) (List.mem_cons_of_mem _ (List.mem_cons_of_mem _ hL)) (by simp) hi (by kernel_rfl) (by kernel_rfl) (by simpa [Ty.size] using hc') hB' rfl ?_;clear hr hc';have hr := hr';exact ApC.two (s := 6) (by simp) rfl (fun _ => ak_call (L := 13) (Leaf.str sCStr) hr (by simp) rfl) (fun _ => ak_call (L := 13) (Leaf.str sStr) hr (by simp) rfl)
  refine ApSR.cons (o' := po + 7) rfl (fun x hx => ?_) ?_
  · refine ApC.onB (s := 6) (by simp) rfl (fun _ => ?_);exact ApC.fits fun hf => ApC.seq (ApC.tags1 (s := 0) (pb := pb) (po := po) (o := 6) (by simp) (by kernel_rfl) hx hB tagLenM sUv (by kernel_rfl) (by kernel_rfl) (tags_small hf) rfl) (ApC.tags2 (s := 0) (pb := pb) (po := po) (o := 6) (by simp) (by kernel_rfl) hx hB tagEachM rfl)
  exact ApSR.nil (ApR.ret (by decide))
end Go.Proofs.YthcgbekkojofpaaGreatDoor.ShareGroupHeartbeatRequest
