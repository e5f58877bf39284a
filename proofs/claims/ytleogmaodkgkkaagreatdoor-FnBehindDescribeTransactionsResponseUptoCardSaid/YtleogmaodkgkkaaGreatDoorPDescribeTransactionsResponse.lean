/- What AppendTo of DescribeTransactionsResponse appends. Printed by gen_app.py. -/
import Derived.Test.YtleogmaodkgkkaaGreatDoorKqSap
import Derived.Test.YtleogmaodkgkkaaGreatDoorKqP06
set_option linter.unusedVariables false
set_option linter.unusedSimpArgs false
namespace Go.Proofs.YtleogmaodkgkkaaGreatDoor.DescribeTransactionsResponse
open Go.Kq
def tDescribeTransactionsResponseTransactionStateTopic : List Ty := [.str, .arr (.int .i32), .tags]
def tDescribeTransactionsResponseTransactionState : List Ty := [.int .i16, .str, .str, .int .i32, .int .i64, .int .i64, .int .i16, .arr (.st tDescribeTransactionsResponseTransactionStateTopic), .tags]
def tDescribeTransactionsResponseR : List Ty := [.int .i32, .arr (.st tDescribeTransactionsResponseTransactionState), .tags]
def gaDescribeTransactionsResponseTransactionStateTopic (ver : Int) : List (V → List UInt8) := [fun x => if decide (ver ≥ 0) then apCStr x else apStr x, fun x => (if decide (ver ≥ 0) then apCLen x.items.length else apLen x.items.length) ++ (x.items.map (apInt 4)).flatten, fun x => if decide (ver ≥ 0) then apTags x else []]
def gaDescribeTransactionsResponseTransactionState (ver : Int) : List (V → List UInt8) := [apInt 2, fun x => if decide (ver ≥ 0) then apCStr x else apStr x, fun x => if decide (ver ≥ 0) then apCStr x else apStr x, apInt 4, apInt 8, apInt 8, apInt 2, fun x => (if decide (ver ≥ 0) then apCLen x.items.length else apLen x.items.length) ++ (x.items.map (apSt (gaDescribeTransactionsResponseTransactionStateTopic ver))).flatten, fun x => if decide (ver ≥ 0) then apTags x else []]
def gaDescribeTransactionsResponse (ver : Int) : List (V → List UInt8) := [apInt 4, fun x => (if decide (ver ≥ 0) then apCLen x.items.length else apLen x.items.length) ++ (x.items.map (apSt (gaDescribeTransactionsResponseTransactionState ver))).flatten, fun x => if decide (ver ≥ 0) then apTags x else []]
set_option maxRecDepth 20000 in
theorem app (ver : Int) : AppM Tryz.prog 67 (.st (.int .i16 :: tDescribeTransactionsResponseR)) (apSt ((fun _ => []) :: gaDescribeTransactionsResponse ver)) ver := by
  refine app_root (N := 221) (ver := ver) Tryz.func67 (by kernel_rfl) rfl rfl rfl (by decide) ?_
  intro e pb po hB hv xs hx
  refine ApR.asg rfl (ApR.load (s := 0) (pb := pb) (po := po) (o := 0) (by simp) (by kernel_rfl) (by kernel_rfl) hv hB rfl (ApR.nop rfl (ApR.flag (s := 5) (i := ver) (by simp) rfl rfl (ApR.nop rfl ?_))))
  refine (show ApSR _ _ _ e _ _ pb (po + 1) tDescribeTransactionsResponseR (gaDescribeTransactionsResponse ver) from ?_) xs hx
  clear hx xs
  refine ApSR.cons (o' := po + 2) rfl (fun x hx => ?_) ?_
  · refine af_load (g := apInt 4) (x := x) (s := 0) (pb := pb) (po := po) (o := 1) (by simp) (by kernel_rfl) (by kernel_rfl) hB rfl rfl (fun cv x hr => ?_) hx
    clear hx
    exact ak_call (L := 7) (Leaf.int sI32) hr (by simp) rfl
  refine ApSR.cons (o' := po + 3) rfl (fun x hx => ?_) ?_
  · refine af_load (g := fun x => (if decide (ver ≥ 0) then apCLen x.items.length else apLen x.items.length) ++ (x.items.map (apSt (gaDescribeTransactionsResponseTransactionState ver))).flatten) (x := x) (s := 0) (pb := pb) (po := po) (o := 2) (by simp) (by kernel_rfl) (by kernel_rfl) hB rfl rfl (fun cv x hr => ?_) hx
    clear hx
    refine ak_small (t := .st tDescribeTransactionsResponseTransactionState) (cv := cv) (ys := (x.items.map (apSt (gaDescribeTransactionsResponseTransactionState ver))).flatten) (ak_items hr (fat_st (fatl_head (fat_int (by decide))))) (fun hn => ApC.seq (y1 := if decide (ver ≥ 0) then apCLen x.items.length else apLen x.items.length) (ApC.two (s := 6) (by simp) rfl (fun _ => ak_len (L := 8) sCLen hr hn (by simp) (by kernel_rfl) rfl) (fun _ => ak_len (L := 8) sLen hr hn (by simp) (by kernel_rfl) rfl)) (ak_loop (L := 8) (t := .st tDescribeTransactionsResponseTransactionState) (g := apSt (gaDescribeTransactionsResponseTransactionState ver)) hr (by simp) (by kernel_rfl) rfl (fun i y b o' ln cap hi hL hB' hy => ?_))) ((two_pos (apCLen_pos _) (apLen_pos _)))
    refine ApC.elem (L := 8) (s := 55) (m := 10) (I' := 9) (b := b) (o := o') (i := i) (List.mem_cons_of_mem _ (List.mem_cons_of_mem _ hL)) (by simp) hi (et := 128) (sz := 9) (bs := 104) (by kernel_rfl) rfl ?_
    clear hr hB
    have hB := hB'
    rw [show Ty.size (.st tDescribeTransactionsResponseTransactionState) = 9 from rfl] at hy
    generalize o' + i * 9 = q at hy ⊢
    refine ApS.st ?_ hy
    clear hy
    show ApS _ _ e _ _ b (q + 0) tDescribeTransactionsResponseTransactionState (gaDescribeTransactionsResponseTransactionState ver)
    refine ApS.cons (o' := q + 1) rfl (fun x hx => ?_) ?_
    · refine af_load (g := apInt 2) (x := x) (s := 10) (pb := b) (po := q) (o := 0) (by simp) (by kernel_rfl) (by kernel_rfl) hB rfl rfl (fun cv x hr => ?_) hx
      clear hx
      exact ak_call (L := 11) (Leaf.int sI16) hr (by simp) rfl
    refine ApS.cons (o' := q + 2) rfl (fun x hx => ?_) ?_
    · refine af_load (g := fun x => if decide (ver ≥ 0) then apCStr x else apStr x) (x := x) (s := 10) (pb := b) (po := q) (o := 1) (by simp) (by kernel_rfl) (by kernel_rfl) hB rfl rfl (fun cv x hr => ?_) hx
      clear hx
      exact ApC.two (s := 6) (by simp) rfl (fun _ => ak_call (L := 12) (Leaf.str sCStr) hr (by simp) rfl) (fun _ => ak_call (L := 12) (Leaf.str sStr) hr (by simp) rfl)
    refine ApS.cons (o' := q + 3) rfl (fun x hx => ?_) ?_
    · refine af_load (g := fun x => if decide (ver ≥ 0) then apCStr x else apStr x) (x := x) (s := 10) (pb := b) (po := q) (o := 2) (by simp) (by kernel_rfl) (by kernel_rfl) hB rfl rfl (fun cv x hr => ?_) hx
      clear hx
      exact ApC.two (s := 6) (by simp) rfl (fun _ => ak_call (L := 13) (Leaf.str sCStr) hr (by simp) rfl) (fun _ => ak_call (L := 13) (Leaf.str sStr) hr (by simp) rfl)
    refine ApS.cons (o' := q + 4) rfl (fun x hx => ?_) ?_
    · refine af_load (g := apInt 4) (x := x) (s := 10) (pb := b) (po := q) (o := 3) (by simp) (by kernel_rfl) (by kernel_rfl) hB rfl rfl (fun cv x hr => ?_) hx
      clear hx
      exact ak_call (L := 14) (Leaf.int sI32) hr (by simp) rfl
    refine ApS.cons (o' := q + 5) rfl (fun x hx => ?_) ?_
    · refine af_load (g := apInt 8) (x := x) (s := 10) (pb := b) (po := q) (o := 4) (by simp) (by kernel_rfl) (by kernel_rfl) hB rfl rfl (fun cv x hr => ?_) hx
      clear hx
      exact ak_call (L := 15) (Leaf.int sI64) hr (by simp) rfl
    refine ApS.cons (o' := q + 6) rfl (fun x hx => ?_) ?_
    · refine af_load (g := apInt 8) (x := x) (s := 10) (pb := b) (po := q) (o := 5) (by simp) (by kernel_rfl) (by kernel_rfl) hB rfl rfl (fun cv x hr => ?_) hx
      clear hx
      exact ak_call (L := 16) (Leaf.int sI64) hr (by simp) rfl
    refine ApS.cons (o' := q + 7) rfl (fun x hx => ?_) ?_
    · refine af_load (g := apInt 2) (x := x) (s := 10) (pb := b) (po := q) (o := 6) (by simp) (by kernel_rfl) (by kernel_rfl) hB rfl rfl (fun cv x hr => ?_) hx
      clear hx
      exact ak_call (L := 17) (Leaf.int sI16) hr (by simp) rfl
    refine ApS.cons (o' := q + 8) rfl (fun x hx => ?_) ?_
    · refine af_load (g := fun x => (if decide (ver ≥ 0) then apCLen x.items.length else apLen x.items.length) ++ (x.items.map (apSt (gaDescribeTransactionsResponseTransactionStateTopic ver))).flatten) (x := x) (s := 10) (pb := b) (po := q) (o := 7) (by simp) (by kernel_rfl) (by kernel_rfl) hB rfl rfl (fun cv x hr => ?_) hx
      clear hx
      refine ak_small (t := .st tDescribeTransactionsResponseTransactionStateTopic) (cv := cv) (ys := (x.items.map (apSt (gaDescribeTransactionsResponseTransactionStateTopic ver))).flatten) (ak_items hr (fat_st (fatl_head (fat_two (fat_any apCStr_pos) (fat_any apStr_pos))))) (fun hn => ApC.seq (y1 := if decide (ver ≥ 0) then apCLen x.items.length else apLen x.items.length) (ApC.two (s := 6) (by simp) rfl (fun _ => ak_len (L := 18) sCLen hr hn (by simp) (by kernel_rfl) rfl) (fun _ => ak_len (L := 18) sLen hr hn (by simp) (by kernel_rfl) rfl)) (ak_loop (L := 18) (t := .st tDescribeTransactionsResponseTransactionStateTopic) (g := apSt (gaDescribeTransactionsResponseTransactionStateTopic ver)) hr (by simp) (by kernel_rfl) rfl (fun i y b o' ln cap hi hL hB' hy => ?_))) ((two_pos (apCLen_pos _) (apLen_pos _)))
      refine ApC.elem (L := 18) (s := 133) (m := 20) (I' := 19) (b := b) (o := o') (i := i) (List.mem_cons_of_mem _ (List.mem_cons_of_mem _ hL)) (by simp) hi (et := 130) (sz := 3) (bs := 48) (by kernel_rfl) rfl ?_
      clear hr hB
      have hB := hB'
      rw [show Ty.size (.st tDescribeTransactionsResponseTransactionStateTopic) = 3 from rfl] at hy
      generalize o' + i * 3 = q at hy ⊢
      refine ApS.st ?_ hy
      clear hy
      show ApS _ _ e _ _ b (q + 0) tDescribeTransactionsResponseTransactionStateTopic (gaDescribeTransactionsResponseTransactionStateTopic ver)
      refine ApS.cons (o' := q + 1) rfl (fun x hx => ?_) ?_
      · refine af_load (g := fun x => if decide (ver ≥ 0) then apCStr x else apStr x) (x := x) (s := 20) (pb := b) (po := q) (o := 0) (by simp) (by kernel_rfl) (by kernel_rfl) hB rfl rfl (fun cv x hr => ?_) hx
        clear hx
        exact ApC.two (s := 6) (by simp) rfl (fun _ => ak_call (L := 21) (Leaf.str sCStr) hr (by simp) rfl) (fun _ => ak_call (L := 21) (Leaf.str sStr) hr (by simp) rfl)
      refine ApS.cons (o' := q + 2) rfl (fun x hx => ?_) ?_
      · refine af_load (g := fun x => (if decide (ver ≥ 0) then apCLen x.items.length else apLen x.items.length) ++ (x.items.map (apInt 4)).flatten) (x := x) (s := 20) (pb := b) (po := q) (o := 1) (by simp) (by kernel_rfl) (by kernel_rfl) hB rfl rfl (fun cv x hr => ?_) hx
        clear hx
        refine ak_small (t := .int .i32) (cv := cv) (ys := (x.items.map (apInt 4)).flatten) (ak_items hr (fat_int (by decide))) (fun hn => ApC.seq (y1 := if decide (ver ≥ 0) then apCLen x.items.length else apLen x.items.length) (ApC.two (s := 6) (by simp) rfl (fun _ => ak_len (L := 22) sCLen hr hn (by simp) (by kernel_rfl) rfl) (fun _ => ak_len (L := 22) sLen hr hn (by simp) (by kernel_rfl) rfl)) (ak_loop (L := 22) (t := .int .i32) (g := apInt 4) hr (by simp) (by kernel_rfl) rfl (fun i y b o' ln cap hi hL hB' hy => ?_))) ((two_pos (apCLen_pos _) (apLen_pos _)))
        obtain ⟨cv', hc', hr'⟩ := hy.one rfl
        refine ApC.elemV (L := 22) (s := 165) (m := 24) (I' := 23) (b := b) (o := o') (i := i) (cv := cv') (et := 21) (bs := 4) (List.mem_cons_of_mem _ (List.mem_cons_of_mem _ hL)) (by simp) hi (by kernel_rfl) (by kernel_rfl) (by simpa [Ty.size] using hc') hB' rfl ?_
        clear hr hc'
        have hr := hr'
        exact ak_call (L := 24) (Leaf.int sI32) hr (by simp) rfl
      refine ApS.one (fun x hx => ?_)
      refine ApC.onB (s := 6) (by simp) rfl (fun _ => ?_)
      exact ApC.fits fun hf => ApC.seq (ApC.tags1 (s := 20) (pb := b) (po := q) (o := 2) (by simp) (by kernel_rfl) hx hB tagLenM sUv (by kernel_rfl) (by kernel_rfl) (tags_small hf) rfl) (ApC.tags2 (s := 20) (pb := b) (po := q) (o := 2) (by simp) (by kernel_rfl) hx hB tagEachM rfl)
    refine ApS.one (fun x hx => ?_)
    refine ApC.onB (s := 6) (by simp) rfl (fun _ => ?_)
    exact ApC.fits fun hf => ApC.seq (ApC.tags1 (s := 10) (pb := b) (po := q) (o := 8) (by simp) (by kernel_rfl) hx hB tagLenM sUv (by kernel_rfl) (by kernel_rfl) (tags_small hf) rfl) (ApC.tags2 (s := 10) (pb := b) (po := q) (o := 8) (by simp) (by kernel_rfl) hx hB tagEachM rfl)
  refine ApSR.cons (o' := po + 4) rfl (fun x hx => ?_) ?_
  · refine ApC.onB (s := 6) (by simp) rfl (fun _ => ?_)
    exact ApC.fits fun hf => ApC.seq (ApC.tags1 (s := 0) (pb := pb) (po := po) (o := 3) (by simp) (by kernel_rfl) hx hB tagLenM sUv (by kernel_rfl) (by kernel_rfl) (tags_small hf) rfl) (ApC.tags2 (s := 0) (pb := pb) (po := po) (o := 3) (by simp) (by kernel_rfl) hx hB tagEachM rfl)
  exact ApSR.nil (ApR.ret (by decide))
end Go.Proofs.YtleogmaodkgkkaaGreatDoor.DescribeTransactionsResponse
