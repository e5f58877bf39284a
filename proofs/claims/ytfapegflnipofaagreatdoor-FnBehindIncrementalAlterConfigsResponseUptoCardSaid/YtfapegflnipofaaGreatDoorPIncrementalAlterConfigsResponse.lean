/- What AppendTo of IncrementalAlterConfigsResponse appends. Printed by gen_app.py. -/
import Derived.Test.YtfapegflnipofaaGreatDoorKqSap
import Derived.Test.YtfapegflnipofaaGreatDoorKqP06
import Derived.Test.YtfapegflnipofaaGreatDoorKqP02
import Derived.Test.YtfapegflnipofaaGreatDoorKqP01
set_option linter.unusedVariables false
set_option linter.unusedSimpArgs false
namespace Go.Proofs.YtfapegflnipofaaGreatDoor.IncrementalAlterConfigsResponse
open Go.Kq
def tIncrementalAlterConfigsResponseResource : List Ty := [.int .i16, .pstr, .int .i8, .str, .tags]
def tIncrementalAlterConfigsResponseR : List Ty := [.int .i32, .arr (.st tIncrementalAlterConfigsResponseResource), .tags]
def gaIncrementalAlterConfigsResponseResource (ver : Int) : List (V → List UInt8) := [apInt 2, fun x => if decide (ver ≥ 1) then apCNStr x else apNStr x, apInt 1, fun x => if decide (ver ≥ 1) then apCStr x else apStr x, fun x => if decide (ver ≥ 1) then apTags x else []]
def gaIncrementalAlterConfigsResponse (ver : Int) : List (V → List UInt8) := [apInt 4, fun x => (if decide (ver ≥ 1) then apCLen x.items.length else apLen x.items.length) ++ (x.items.map (apSt (gaIncrementalAlterConfigsResponseResource ver))).flatten, fun x => if decide (ver ≥ 1) then apTags x else []]
set_option maxRecDepth 20000 in
theorem app (ver : Int) : AppM Tryz.prog 68 (.st (.int .i16 :: tIncrementalAlterConfigsResponseR)) (apSt ((fun _ => []) :: gaIncrementalAlterConfigsResponse ver)) ver := by
  refine app_root (N := 119) (ver := ver) Tryz.func68 (by kernel_rfl) rfl rfl rfl (by decide) ?_
  intro e pb po hB hv xs hx
  refine ApR.asg rfl (ApR.load (s := 0) (pb := pb) (po := po) (o := 0) (by simp) (by kernel_rfl) (by kernel_rfl) hv hB rfl (ApR.nop rfl (ApR.flag (s := 5) (i := ver) (by simp) rfl rfl (ApR.nop rfl ?_))))
  refine (show ApSR _ _ _ e _ _ pb (po + 1) tIncrementalAlterConfigsResponseR (gaIncrementalAlterConfigsResponse ver) from ?_) xs hx
  clear hx xs
  refine ApSR.cons (o' := po + 2) rfl (fun x hx => ?_) ?_
  · refine af_load (g := apInt 4) (x := x) (s := 0) (pb := pb) (po := po) (o := 1) (by simp) (by kernel_rfl) (by kernel_rfl) hB rfl rfl (fun cv x hr => ?_) hx
    clear hx
    exact ak_call (L := 7) (Leaf.int sI32) hr (by simp) rfl
  refine ApSR.cons (o' := po + 3) rfl (fun x hx => ?_) ?_
  · refine af_load (g := fun x => (if decide (ver ≥ 1) then apCLen x.items.length else apLen x.items.length) ++ (x.items.map (apSt (gaIncrementalAlterConfigsResponseResource ver))).flatten) (x := x) (s := 0) (pb := pb) (po := po) (o := 2) (by simp) (by kernel_rfl) (by kernel_rfl) hB rfl rfl (fun cv x hr => ?_) hx
    clear hx
    refine ak_small (t := .st tIncrementalAlterConfigsResponseResource) (cv := cv) (ys := (x.items.map (apSt (gaIncrementalAlterConfigsResponseResource ver))).flatten) (ak_items hr (fat_st (fatl_head (fat_int (by decide))))) (fun hn => ApC.seq (y1 := if decide (ver ≥ 1) then apCLen x.items.length else apLen x.items.length) (ApC.two (s := 6) (by simp) rfl (fun _ => ak_len (L := 8) sCLen hr hn (by simp) (by kernel_rfl) rfl) (fun _ => ak_len (L := 8) sLen hr hn (by simp) (by kernel_rfl) rfl)) (ak_loop (L := 8) (t := .st tIncrementalAlterConfigsResponseResource) (g := apSt (gaIncrementalAlterConfigsResponseResource ver)) hr (by simp) (by kernel_rfl) rfl (fun i y b o' ln cap hi hL hB' hy => ?_))) ((two_pos (apCLen_pos _) (apLen_pos _)))
    refine ApC.elem (L := 8) (s := 46) (m := 10) (I' := 9) (b := b) (o := o') (i := i) (List.mem_cons_of_mem _ (List.mem_cons_of_mem _ hL)) (by simp) hi (et := 144) (sz := 5) (bs := 48) (by kernel_rfl) rfl ?_
    clear hr hB
    have hB := hB'
    rw [show Ty.size (.st tIncrementalAlterConfigsResponseResource) = 5 from rfl] at hy
    generalize o' + i * 5 = q at hy ⊢
    refine ApS.st ?_ hy
    clear hy
    show ApS _ _ e _ _ b (q + 0) tIncrementalAlterConfigsResponseResource (gaIncrementalAlterConfigsResponseResource ver)
    refine ApS.cons (o' := q + 1) rfl (fun x hx => ?_) ?_
    · refine af_load (g := apInt 2) (x := x) (s := 10) (pb := b) (po := q) (o := 0) (by simp) (by kernel_rfl) (by kernel_rfl) hB rfl rfl (fun cv x hr => ?_) hx
      clear hx
      exact ak_call (L := 11) (Leaf.int sI16) hr (by simp) rfl
    refine ApS.cons (o' := q + 2) rfl (fun x hx => ?_) ?_
    · refine af_load (g := fun x => if decide (ver ≥ 1) then apCNStr x else apNStr x) (x := x) (s := 10) (pb := b) (po := q) (o := 1) (by simp) (by kernel_rfl) (by kernel_rfl) hB rfl rfl (fun cv x hr => ?_) hx
      clear hx
      exact ApC.two (s := 6) (by simp) rfl (fun _ => ak_call (L := 12) (Leaf.pstr sCNStr) hr (by simp) rfl) (fun _ => ak_call (L := 12) (Leaf.pstr sNStr) hr (by simp) rfl)
    refine ApS.cons (o' := q + 3) rfl (fun x hx => ?_) ?_
    · refine af_load (g := apInt 1) (x := x) (s := 10) (pb := b) (po := q) (o := 2) (by simp) (by kernel_rfl) (by kernel_rfl) hB rfl rfl (fun cv x hr => ?_) hx
      clear hx
      refine ApC.copy (L := 13) (L' := 14) (cv := cv) (by simp) rfl ?_
      exact ak_call (L := 14) (Leaf.int sI8) hr (by simp) rfl
    refine ApS.cons (o' := q + 4) rfl (fun x hx => ?_) ?_
    · refine af_load (g := fun x => if decide (ver ≥ 1) then apCStr x else apStr x) (x := x) (s := 10) (pb := b) (po := q) (o := 3) (by simp) (by kernel_rfl) (by kernel_rfl) hB rfl rfl (fun cv x hr => ?_) hx
      clear hx
      exact ApC.two (s := 6) (by simp) rfl (fun _ => ak_call (L := 15) (Leaf.str sCStr) hr (by simp) rfl) (fun _ => ak_call (L := 15) (Leaf.str sStr) hr (by simp) rfl)
    refine ApS.one (fun x hx => ?_)
    refine ApC.onB (s := 6) (by simp) rfl (fun _ => ?_)
    exact ApC.fits fun hf => ApC.seq (ApC.tags1 (s := 10) (pb := b) (po := q) (o := 4) (by simp) (by kernel_rfl) hx hB tagLenM sUv (by kernel_rfl) (by kernel_rfl) (tags_small hf) rfl) (ApC.tags2 (s := 10) (pb := b) (po := q) (o := 4) (by simp) (by kernel_rfl) hx hB tagEachM rfl)
  refine ApSR.cons (o' := po + 4) rfl (fun x hx => ?_) ?_
  · refine ApC.onB (s := 6) (by simp) rfl (fun _ => ?_)
    exact ApC.fits fun hf => ApC.seq (ApC.tags1 (s := 0) (pb := pb) (po := po) (o := 3) (by simp) (by kernel_rfl) hx hB tagLenM sUv (by kernel_rfl) (by kernel_rfl) (tags_small hf) rfl) (ApC.tags2 (s := 0) (pb := pb) (po := po) (o := 3) (by simp) (by kernel_rfl) hx hB tagEachM rfl)
  exact ApSR.nil (ApR.ret (by decide))
end Go.Proofs.YtfapegflnipofaaGreatDoor.IncrementalAlterConfigsResponse
