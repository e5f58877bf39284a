/- What AppendTo of DescribeClientQuotasRequest appends. Printed by gen_app.py. -/
import Derived.Test.YthmejlgblhjcdaaGreatDoorKqSap
import Derived.Test.YthmejlgblhjcdaaGreatDoorKqP06
import Derived.Test.YthmejlgblhjcdaaGreatDoorKqP02
import Derived.Test.YthmejlgblhjcdaaGreatDoorKqP01
set_option linter.unusedVariables false
set_option linter.unusedSimpArgs false
namespace Go.Proofs.YthmejlgblhjcdaaGreatDoor.DescribeClientQuotasRequest
open Go.Kq
def tDescribeClientQuotasRequestComponent : List Ty := [.str, .int .i8, .pstr, .tags]
def tDescribeClientQuotasRequestR : List Ty := [.arr (.st tDescribeClientQuotasRequestComponent), .bool, .tags]
def gaDescribeClientQuotasRequestComponent (ver : Int) : List (V → List UInt8) := [fun x => if decide (ver ≥ 1) then apCStr x else apStr x, apInt 1, fun x => if decide (ver ≥ 1) then apCNStr x else apNStr x, fun x => if decide (ver ≥ 1) then apTags x else []]
def gaDescribeClientQuotasRequest (ver : Int) : List (V → List UInt8) := [fun x => (if decide (ver ≥ 1) then apCLen x.items.length else apLen x.items.length) ++ (x.items.map (apSt (gaDescribeClientQuotasRequestComponent ver))).flatten, apBool, fun x => if decide (ver ≥ 1) then apTags x else []]
set_option maxRecDepth 20000 in
theorem app (ver : Int) : AppM Tryz.prog 37 (.st (.int .i16 :: tDescribeClientQuotasRequestR)) (apSt ((fun _ => []) :: gaDescribeClientQuotasRequest ver)) ver := by
  refine app_root (N := 111) (ver := ver) Tryz.func37 (by kernel_rfl) rfl rfl rfl (by decide) ?_
  intro e pb po hB hv xs hx
  refine ApR.asg rfl (ApR.load (s := 0) (pb := pb) (po := po) (o := 0) (by simp) (by kernel_rfl) (by kernel_rfl) hv hB rfl (ApR.nop rfl (ApR.flag (s := 5) (i := ver) (by simp) rfl rfl (ApR.nop rfl ?_))))
  refine (show ApSR _ _ _ e _ _ pb (po + 1) tDescribeClientQuotasRequestR (gaDescribeClientQuotasRequest ver) from ?_) xs hx
  clear hx xs
  refine ApSR.cons (o' := po + 2) rfl (fun x hx => ?_) ?_
  · refine af_load (g := fun x => (if decide (ver ≥ 1) then apCLen x.items.length else apLen x.items.length) ++ (x.items.map (apSt (gaDescribeClientQuotasRequestComponent ver))).flatten) (x := x) (s := 0) (pb := pb) (po := po) (o := 1) (by simp) (by kernel_rfl) (by kernel_rfl) hB rfl rfl (fun cv x hr => ?_) hx
    clear hx
    refine ak_small (t := .st tDescribeClientQuotasRequestComponent) (cv := cv) (ys := (x.items.map (apSt (gaDescribeClientQuotasRequestComponent ver))).flatten) (ak_items hr (fat_st (fatl_head (fat_two (fat_any apCStr_pos) (fat_any apStr_pos))))) (fun hn => ApC.seq (y1 := if decide (ver ≥ 1) then apCLen x.items.length else apLen x.items.length) (ApC.two (s := 6) (by simp) rfl (fun _ => ak_len (L := 7) sCLen hr hn (by simp) (by kernel_rfl) rfl) (fun _ => ak_len (L := 7) sLen hr hn (by simp) (by kernel_rfl) rfl)) (ak_loop (L := 7) (t := .st tDescribeClientQuotasRequestComponent) (g := apSt (gaDescribeClientQuotasRequestComponent ver)) hr (by simp) (by kernel_rfl) rfl (fun i y b o' ln cap hi hL hB' hy => ?_))) ((two_pos (apCLen_pos _) (apLen_pos _)))
    refine ApC.elem (L := 7) (s := 38) (m := 9) (I' := 8) (b := b) (o := o') (i := i) (List.mem_cons_of_mem _ (List.mem_cons_of_mem _ hL)) (by simp) hi (et := 100) (sz := 4) (bs := 40) (by kernel_rfl) rfl ?_
    clear hr hB
    have hB := hB'
    rw [show Ty.size (.st tDescribeClientQuotasRequestComponent) = 4 from rfl] at hy
    generalize o' + i * 4 = q at hy ⊢
    refine ApS.st ?_ hy
    clear hy
    show ApS _ _ e _ _ b (q + 0) tDescribeClientQuotasRequestComponent (gaDescribeClientQuotasRequestComponent ver)
    refine ApS.cons (o' := q + 1) rfl (fun x hx => ?_) ?_
    · refine af_load (g := fun x => if decide (ver ≥ 1) then apCStr x else apStr x) (x := x) (s := 9) (pb := b) (po := q) (o := 0) (by simp) (by kernel_rfl) (by kernel_rfl) hB rfl rfl (fun cv x hr => ?_) hx
      clear hx
      exact ApC.two (s := 6) (by simp) rfl (fun _ => ak_call (L := 10) (Leaf.str sCStr) hr (by simp) rfl) (fun _ => ak_call (L := 10) (Leaf.str sStr) hr (by simp) rfl)
    refine ApS.cons (o' := q + 2) rfl (fun x hx => ?_) ?_
    · refine af_load (g := apInt 1) (x := x) (s := 9) (pb := b) (po := q) (o := 1) (by simp) (by kernel_rfl) (by kernel_rfl) hB rfl rfl (fun cv x hr => ?_) hx
      clear hx
      refine ApC.copy (L := 11) (L' := 12) (cv := cv) (by simp) rfl ?_
      exact ak_call (L := 12) (Leaf.int sI8) hr (by simp) rfl
    refine ApS.cons (o' := q + 3) rfl (fun x hx => ?_) ?_
    · refine af_load (g := fun x => if decide (ver ≥ 1) then apCNStr x else apNStr x) (x := x) (s := 9) (pb := b) (po := q) (o := 2) (by simp) (by kernel_rfl) (by kernel_rfl) hB rfl rfl (fun cv x hr => ?_) hx
      clear hx
      exact ApC.two (s := 6) (by simp) rfl (fun _ => ak_call (L := 13) (Leaf.pstr sCNStr) hr (by simp) rfl) (fun _ => ak_call (L := 13) (Leaf.pstr sNStr) hr (by simp) rfl)
    refine ApS.one (fun x hx => ?_)
    refine ApC.onB (s := 6) (by simp) rfl (fun _ => ?_)
    exact ApC.fits fun hf => ApC.seq (ApC.tags1 (s := 9) (pb := b) (po := q) (o := 3) (by simp) (by kernel_rfl) hx hB tagLenM sUv (by kernel_rfl) (by kernel_rfl) (tags_small hf) rfl) (ApC.tags2 (s := 9) (pb := b) (po := q) (o := 3) (by simp) (by kernel_rfl) hx hB tagEachM rfl)
  refine ApSR.cons (o' := po + 3) rfl (fun x hx => ?_) ?_
  · refine af_load (g := apBool) (x := x) (s := 0) (pb := pb) (po := po) (o := 2) (by simp) (by kernel_rfl) (by kernel_rfl) hB rfl rfl (fun cv x hr => ?_) hx
    clear hx
    exact ak_call (L := 14) (Leaf.bool sBool) hr (by simp) rfl
  refine ApSR.cons (o' := po + 4) rfl (fun x hx => ?_) ?_
  · refine ApC.onB (s := 6) (by simp) rfl (fun _ => ?_)
    exact ApC.fits fun hf => ApC.seq (ApC.tags1 (s := 0) (pb := pb) (po := po) (o := 3) (by simp) (by kernel_rfl) hx hB tagLenM sUv (by kernel_rfl) (by kernel_rfl) (tags_small hf) rfl) (ApC.tags2 (s := 0) (pb := pb) (po := po) (o := 3) (by simp) (by kernel_rfl) hx hB tagEachM rfl)
  exact ApSR.nil (ApR.ret (by decide))
end Go.Proofs.YthmejlgblhjcdaaGreatDoor.DescribeClientQuotasRequest
