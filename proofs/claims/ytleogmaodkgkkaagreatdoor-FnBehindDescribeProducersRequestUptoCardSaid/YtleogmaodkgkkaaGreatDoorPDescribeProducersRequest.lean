/- What AppendTo of DescribeProducersRequest appends. Printed by gen_app.py. -/
import Derived.Test.YtleogmaodkgkkaaGreatDoorKqSap
import Derived.Test.YtleogmaodkgkkaaGreatDoorKqP06
set_option linter.unusedVariables false
set_option linter.unusedSimpArgs false
namespace Go.Proofs.YtleogmaodkgkkaaGreatDoor.DescribeProducersRequest
open Go.Kq
def tDescribeProducersRequestTopic : List Ty := [.str, .arr (.int .i32), .tags]
def tDescribeProducersRequestR : List Ty := [.arr (.st tDescribeProducersRequestTopic), .tags]
def gaDescribeProducersRequestTopic (ver : Int) : List (V → List UInt8) := [fun x => if decide (ver ≥ 0) then apCStr x else apStr x, fun x => (if decide (ver ≥ 0) then apCLen x.items.length else apLen x.items.length) ++ (x.items.map (apInt 4)).flatten, fun x => if decide (ver ≥ 0) then apTags x else []]
def gaDescribeProducersRequest (ver : Int) : List (V → List UInt8) := [fun x => (if decide (ver ≥ 0) then apCLen x.items.length else apLen x.items.length) ++ (x.items.map (apSt (gaDescribeProducersRequestTopic ver))).flatten, fun x => if decide (ver ≥ 0) then apTags x else []]
set_option maxRecDepth 20000 in
theorem app (ver : Int) : AppM Tryz.prog 38 (.st (.int .i16 :: tDescribeProducersRequestR)) (apSt ((fun _ => []) :: gaDescribeProducersRequest ver)) ver := by
  refine app_root (N := 110) (ver := ver) Tryz.func38 (by kernel_rfl) rfl rfl rfl (by decide) ?_
  intro e pb po hB hv xs hx
  refine ApR.asg rfl (ApR.load (s := 0) (pb := pb) (po := po) (o := 0) (by simp) (by kernel_rfl) (by kernel_rfl) hv hB rfl (ApR.nop rfl (ApR.flag (s := 5) (i := ver) (by simp) rfl rfl (ApR.nop rfl ?_))))
  refine (show ApSR _ _ _ e _ _ pb (po + 1) tDescribeProducersRequestR (gaDescribeProducersRequest ver) from ?_) xs hx
  clear hx xs
  refine ApSR.cons (o' := po + 2) rfl (fun x hx => ?_) ?_
  · refine af_load (g := fun x => (if decide (ver ≥ 0) then apCLen x.items.length else apLen x.items.length) ++ (x.items.map (apSt (gaDescribeProducersRequestTopic ver))).flatten) (x := x) (s := 0) (pb := pb) (po := po) (o := 1) (by simp) (by kernel_rfl) (by kernel_rfl) hB rfl rfl (fun cv x hr => ?_) hx
    clear hx
    refine ak_small (t := .st tDescribeProducersRequestTopic) (cv := cv) (ys := (x.items.map (apSt (gaDescribeProducersRequestTopic ver))).flatten) (ak_items hr (fat_st (fatl_head (fat_two (fat_any apCStr_pos) (fat_any apStr_pos))))) (fun hn => ApC.seq (y1 := if decide (ver ≥ 0) then apCLen x.items.length else apLen x.items.length) (ApC.two (s := 6) (by simp) rfl (fun _ => ak_len (L := 7) sCLen hr hn (by simp) (by kernel_rfl) rfl) (fun _ => ak_len (L := 7) sLen hr hn (by simp) (by kernel_rfl) rfl)) (ak_loop (L := 7) (t := .st tDescribeProducersRequestTopic) (g := apSt (gaDescribeProducersRequestTopic ver)) hr (by simp) (by kernel_rfl) rfl (fun i y b o' ln cap hi hL hB' hy => ?_))) ((two_pos (apCLen_pos _) (apLen_pos _)))
    refine ApC.elem (L := 7) (s := 37) (m := 9) (I' := 8) (b := b) (o := o') (i := i) (List.mem_cons_of_mem _ (List.mem_cons_of_mem _ hL)) (by simp) hi (et := 86) (sz := 3) (bs := 48) (by kernel_rfl) rfl ?_
    clear hr hB
    have hB := hB'
    rw [show Ty.size (.st tDescribeProducersRequestTopic) = 3 from rfl] at hy
    generalize o' + i * 3 = q at hy ⊢
    refine ApS.st ?_ hy
    clear hy
    show ApS _ _ e _ _ b (q + 0) tDescribeProducersRequestTopic (gaDescribeProducersRequestTopic ver)
    refine ApS.cons (o' := q + 1) rfl (fun x hx => ?_) ?_
    · refine af_load (g := fun x => if decide (ver ≥ 0) then apCStr x else apStr x) (x := x) (s := 9) (pb := b) (po := q) (o := 0) (by simp) (by kernel_rfl) (by kernel_rfl) hB rfl rfl (fun cv x hr => ?_) hx
      clear hx
      exact ApC.two (s := 6) (by simp) rfl (fun _ => ak_call (L := 10) (Leaf.str sCStr) hr (by simp) rfl) (fun _ => ak_call (L := 10) (Leaf.str sStr) hr (by simp) rfl)
    refine ApS.cons (o' := q + 2) rfl (fun x hx => ?_) ?_
    · refine af_load (g := fun x => (if decide (ver ≥ 0) then apCLen x.items.length else apLen x.items.length) ++ (x.items.map (apInt 4)).flatten) (x := x) (s := 9) (pb := b) (po := q) (o := 1) (by simp) (by kernel_rfl) (by kernel_rfl) hB rfl rfl (fun cv x hr => ?_) hx
      clear hx
      refine ak_small (t := .int .i32) (cv := cv) (ys := (x.items.map (apInt 4)).flatten) (ak_items hr (fat_int (by decide))) (fun hn => ApC.seq (y1 := if decide (ver ≥ 0) then apCLen x.items.length else apLen x.items.length) (ApC.two (s := 6) (by simp) rfl (fun _ => ak_len (L := 11) sCLen hr hn (by simp) (by kernel_rfl) rfl) (fun _ => ak_len (L := 11) sLen hr hn (by simp) (by kernel_rfl) rfl)) (ak_loop (L := 11) (t := .int .i32) (g := apInt 4) hr (by simp) (by kernel_rfl) rfl (fun i y b o' ln cap hi hL hB' hy => ?_))) ((two_pos (apCLen_pos _) (apLen_pos _)))
      obtain ⟨cv', hc', hr'⟩ := hy.one rfl
      refine ApC.elemV (L := 11) (s := 69) (m := 13) (I' := 12) (b := b) (o := o') (i := i) (cv := cv') (et := 21) (bs := 4) (List.mem_cons_of_mem _ (List.mem_cons_of_mem _ hL)) (by simp) hi (by kernel_rfl) (by kernel_rfl) (by simpa [Ty.size] using hc') hB' rfl ?_
      clear hr hc'
      have hr := hr'
      exact ak_call (L := 13) (Leaf.int sI32) hr (by simp) rfl
    refine ApS.one (fun x hx => ?_)
    refine ApC.onB (s := 6) (by simp) rfl (fun _ => ?_)
    exact ApC.fits fun hf => ApC.seq (ApC.tags1 (s := 9) (pb := b) (po := q) (o := 2) (by simp) (by kernel_rfl) hx hB tagLenM sUv (by kernel_rfl) (by kernel_rfl) (tags_small hf) rfl) (ApC.tags2 (s := 9) (pb := b) (po := q) (o := 2) (by simp) (by kernel_rfl) hx hB tagEachM rfl)
  refine ApSR.cons (o' := po + 3) rfl (fun x hx => ?_) ?_
  · refine ApC.onB (s := 6) (by simp) rfl (fun _ => ?_)
    exact ApC.fits fun hf => ApC.seq (ApC.tags1 (s := 0) (pb := pb) (po := po) (o := 2) (by simp) (by kernel_rfl) hx hB tagLenM sUv (by kernel_rfl) (by kernel_rfl) (tags_small hf) rfl) (ApC.tags2 (s := 0) (pb := pb) (po := po) (o := 2) (by simp) (by kernel_rfl) hx hB tagEachM rfl)
  exact ApSR.nil (ApR.ret (by decide))
end Go.Proofs.YtleogmaodkgkkaaGreatDoor.DescribeProducersRequest
