/- What AppendTo of DeleteGroupsRequest appends. Printed by gen_app.py. -/
import Derived.Test.YthcgbekkojofpaaGreatDoorKqSap
import Derived.Test.YthcgbekkojofpaaGreatDoorKqP06
import Derived.Test.YthcgbekkojofpaaGreatDoorKqP02
import Derived.Test.YthcgbekkojofpaaGreatDoorKqP01
set_option linter.unusedVariables false
set_option linter.unusedSimpArgs false
namespace Go.Proofs.YthcgbekkojofpaaGreatDoor.DeleteGroupsRequest
open Go.Kq
def tQR : List Ty := [.arr (.str), .tags]
def gaQ (ver : Int) : List (V → List UInt8) := [fun x => (if decide (ver ≥ 2) then apCLen x.items.length else apLen x.items.length) ++ (x.items.map (fun x => if decide (ver ≥ 2) then apCStr x else apStr x)).flatten, fun x => if decide (ver ≥ 2) then apTags x else []]
set_option maxRecDepth 20000 in
theorem app (ver : Int) : AppM Tryz.prog 123 (.st (.int .i16 :: tQR)) (apSt ((fun _ => []) :: gaQ ver)) ver := by
  refine app_root (N := 63) (ver := ver) Tryz.func123 (by kernel_rfl) rfl rfl rfl (by decide) ?_;intro e pb po hB hv xs hx;refine ApR.asg rfl (ApR.load (s := 0) (pb := pb) (po := po) (o := 0) (by simp) (by kernel_rfl) (by kernel_rfl) hv hB rfl (ApR.nop rfl (ApR.flag (s := 5) (i := ver) (by simp) rfl rfl (ApR.nop rfl ?_))));refine (show ApSR _ _ _ e _ _ pb (po + 1) tQR (gaQ ver) from ?_) xs hx;clear hx xs;refine ApSR.cons (o' := po + 2) rfl (fun x hx => ?_) ?_
  · refine af_load (g := fun x => (if decide (ver ≥ 2) then apCLen x.items.length else apLen x.items.length) ++ (x.items.map (fun x => if decide (ver ≥ 2) then apCStr x else apStr x)).flatten) (x := x) (s := 0) (pb := pb) (po := po) (o := 1) (by simp) (by kernel_rfl) (by kernel_rfl) hB rfl rfl (fun cv x hr => ?_) hx;clear hx;refine ak_small (t := .str) (cv := cv) (ys := (x.items.map (fun x => if decide (ver ≥ 2) then apCStr x else apStr x)).flatten) (ak_items hr (fat_two (fat_any apCStr_pos) (fat_any apStr_pos))) (fun hn => ApC.seq (y1 := if decide (ver ≥ 2) then apCLen x.items.length else apLen x.items.length) (ApC.two (s := 6) (by simp) rfl (fun _ => ak_len (L := 7) sCLen hr hn (by simp) (by kernel_rfl) rfl) (fun _ => ak_len (L := 7) sLen hr hn (by simp) (by kernel_rfl) rfl)) (ak_loop (L := 7) (t := .str) (g := fun x => if decide (ver ≥ 2) then apCStr x else apStr x) hr (by simp) (by kernel_rfl) rfl (fun i y b o' ln cap hi hL hB' hy => ?_))) ((two_pos (apCLen_pos _) (apLen_pos _)));obtain ⟨cv', hc', hr'⟩ := hy.one rfl;refine ApC.elemV (L := 7) (s := 33) (m := 9) (I' := 8) (b := b) (o := o') (i := i) (cv := cv') (et := 9) (bs := 16) (List.mem_cons_of_mem _ (List.mem_cons_of_mem _ hL)) (by simp) hi (by kernel_rfl) (by kernel_rfl) (by simpa [Ty.size] using hc') hB' rfl ?_;clear hr hc';have hr := hr';exact ApC.two (s := 6) (by simp) rfl (fun _ => ak_call (L := 9) (Leaf.str sCStr) hr (by simp) rfl) (fun _ => ak_call (L := 9) (Leaf.str sStr) hr (by simp) rfl)
  refine ApSR.cons (o' := po + 3) rfl (fun x hx => ?_) ?_
  · refine ApC.onB (s := 6) (by simp) rfl (fun _ => ?_);exact ApC.fits fun hf => ApC.seq (ApC.tags1 (s := 0) (pb := pb) (po := po) (o := 2) (by simp) (by kernel_rfl) hx hB tagLenM sUv (by kernel_rfl) (by kernel_rfl) (tags_small hf) rfl) (ApC.tags2 (s := 0) (pb := pb) (po := po) (o := 2) (by simp) (by kernel_rfl) hx hB tagEachM rfl)
  exact ApSR.nil (ApR.ret (by decide))
end Go.Proofs.YthcgbekkojofpaaGreatDoor.DeleteGroupsRequest
