/- What AppendTo of ListTransactionsResponse appends. Printed by gen_app.py. -/
import Derived.Test.YtleogmaodkgkkaaGreatDoorKqSap
import Derived.Test.YtleogmaodkgkkaaGreatDoorKqP06
set_option linter.unusedVariables false
set_option linter.unusedSimpArgs false
namespace Go.Proofs.YtleogmaodkgkkaaGreatDoor.ListTransactionsResponse
open Go.Kq
def tListTransactionsResponseTransactionState : List Ty := [.str, .int .i64, .str, .tags]
def tListTransactionsResponseR : List Ty := [.int .i32, .int .i16, .arr (.str), .arr (.st tListTransactionsResponseTransactionState), .tags]
def gaListTransactionsResponseTransactionState (ver : Int) : List (V → List UInt8) := [fun x => if decide (ver ≥ 0) then apCStr x else apStr x, apInt 8, fun x => if decide (ver ≥ 0) then apCStr x else apStr x, fun x => if decide (ver ≥ 0) then apTags x else []]
def gaListTransactionsResponse (ver : Int) : List (V → List UInt8) := [apInt 4, apInt 2, fun x => (if decide (ver ≥ 0) then apCLen x.items.length else apLen x.items.length) ++ (x.items.map (fun x => if decide (ver ≥ 0) then apCStr x else apStr x)).flatten, fun x => (if decide (ver ≥ 0) then apCLen x.items.length else apLen x.items.length) ++ (x.items.map (apSt (gaListTransactionsResponseTransactionState ver))).flatten, fun x => if decide (ver ≥ 0) then apTags x else []]
set_option maxRecDepth 20000 in
theorem app (ver : Int) : AppM Tryz.prog 55 (.st (.int .i16 :: tListTransactionsResponseR)) (apSt ((fun _ => []) :: gaListTransactionsResponse ver)) ver := by
  refine app_root (N := 150) (ver := ver) Tryz.func55 (by kernel_rfl) rfl rfl rfl (by decide) ?_
  intro e pb po hB hv xs hx
  refine ApR.asg rfl (ApR.load (s := 0) (pb := pb) (po := po) (o := 0) (by simp) (by kernel_rfl) (by kernel_rfl) hv hB rfl (ApR.nop rfl (ApR.flag (s := 5) (i := ver) (by simp) rfl rfl (ApR.nop rfl ?_))))
  refine (show ApSR _ _ _ e _ _ pb (po + 1) tListTransactionsResponseR (gaListTransactionsResponse ver) from ?_) xs hx
  clear hx xs
  refine ApSR.cons (o' := po + 2) rfl (fun x hx => ?_) ?_
  · refine af_load (g := apInt 4) (x := x) (s := 0) (pb := pb) (po := po) (o := 1) (by simp) (by kernel_rfl) (by kernel_rfl) hB rfl rfl (fun cv x hr => ?_) hx
    clear hx
    exact ak_call (L := 7) (Leaf.int sI32) hr (by simp) rfl
  refine ApSR.cons (o' := po + 3) rfl (fun x hx => ?_) ?_
  · refine af_load (g := apInt 2) (x := x) (s := 0) (pb := pb) (po := po) (o := 2) (by simp) (by kernel_rfl) (by kernel_rfl) hB rfl rfl (fun cv x hr => ?_) hx
    clear hx
    exact ak_call (L := 8) (Leaf.int sI16) hr (by simp) rfl
  refine ApSR.cons (o' := po + 4) rfl (fun x hx => ?_) ?_
  · refine af_load (g := fun x => (if decide (ver ≥ 0) then apCLen x.items.length else apLen x.items.length) ++ (x.items.map (fun x => if decide (ver ≥ 0) then apCStr x else apStr x)).flatten) (x := x) (s := 0) (pb := pb) (po := po) (o := 3) (by simp) (by kernel_rfl) (by kernel_rfl) hB rfl rfl (fun cv x hr => ?_) hx
    clear hx
    refine ak_small (t := .str) (cv := cv) (ys := (x.items.map (fun x => if decide (ver ≥ 0) then apCStr x else apStr x)).flatten) (ak_items hr (fat_two (fat_any apCStr_pos) (fat_any apStr_pos))) (fun hn => ApC.seq (y1 := if decide (ver ≥ 0) then apCLen x.items.length else apLen x.items.length) (ApC.two (s := 6) (by simp) rfl (fun _ => ak_len (L := 9) sCLen hr hn (by simp) (by kernel_rfl) rfl) (fun _ => ak_len (L := 9) sLen hr hn (by simp) (by kernel_rfl) rfl)) (ak_loop (L := 9) (t := .str) (g := fun x => if decide (ver ≥ 0) then apCStr x else apStr x) hr (by simp) (by kernel_rfl) rfl (fun i y b o' ln cap hi hL hB' hy => ?_))) ((two_pos (apCLen_pos _) (apLen_pos _)))
    obtain ⟨cv', hc', hr'⟩ := hy.one rfl
    refine ApC.elemV (L := 9) (s := 55) (m := 11) (I' := 10) (b := b) (o := o') (i := i) (cv := cv') (et := 9) (bs := 16) (List.mem_cons_of_mem _ (List.mem_cons_of_mem _ hL)) (by simp) hi (by kernel_rfl) (by kernel_rfl) (by simpa [Ty.size] using hc') hB' rfl ?_
    clear hr hc'
    have hr := hr'
    exact ApC.two (s := 6) (by simp) rfl (fun _ => ak_call (L := 11) (Leaf.str sCStr) hr (by simp) rfl) (fun _ => ak_call (L := 11) (Leaf.str sStr) hr (by simp) rfl)
  refine ApSR.cons (o' := po + 5) rfl (fun x hx => ?_) ?_
  · refine af_load (g := fun x => (if decide (ver ≥ 0) then apCLen x.items.length else apLen x.items.length) ++ (x.items.map (apSt (gaListTransactionsResponseTransactionState ver))).flatten) (x := x) (s := 0) (pb := pb) (po := po) (o := 4) (by simp) (by kernel_rfl) (by kernel_rfl) hB rfl rfl (fun cv x hr => ?_) hx
    clear hx
    refine ak_small (t := .st tListTransactionsResponseTransactionState) (cv := cv) (ys := (x.items.map (apSt (gaListTransactionsResponseTransactionState ver))).flatten) (ak_items hr (fat_st (fatl_head (fat_two (fat_any apCStr_pos) (fat_any apStr_pos))))) (fun hn => ApC.seq (y1 := if decide (ver ≥ 0) then apCLen x.items.length else apLen x.items.length) (ApC.two (s := 6) (by simp) rfl (fun _ => ak_len (L := 12) sCLen hr hn (by simp) (by kernel_rfl) rfl) (fun _ => ak_len (L := 12) sLen hr hn (by simp) (by kernel_rfl) rfl)) (ak_loop (L := 12) (t := .st tListTransactionsResponseTransactionState) (g := apSt (gaListTransactionsResponseTransactionState ver)) hr (by simp) (by kernel_rfl) rfl (fun i y b o' ln cap hi hL hB' hy => ?_))) ((two_pos (apCLen_pos _) (apLen_pos _)))
    refine ApC.elem (L := 12) (s := 85) (m := 14) (I' := 13) (b := b) (o := o') (i := i) (List.mem_cons_of_mem _ (List.mem_cons_of_mem _ hL)) (by simp) hi (et := 113) (sz := 4) (bs := 48) (by kernel_rfl) rfl ?_
    clear hr hB
    have hB := hB'
    rw [show Ty.size (.st tListTransactionsResponseTransactionState) = 4 from rfl] at hy
    generalize o' + i * 4 = q at hy ⊢
    refine ApS.st ?_ hy
    clear hy
    show ApS _ _ e _ _ b (q + 0) tListTransactionsResponseTransactionState (gaListTransactionsResponseTransactionState ver)
    refine ApS.cons (o' := q + 1) rfl (fun x hx => ?_) ?_
    · refine af_load (g := fun x => if decide (ver ≥ 0) then apCStr x else apStr x) (x := x) (s := 14) (pb := b) (po := q) (o := 0) (by simp) (by kernel_rfl) (by kernel_rfl) hB rfl rfl (fun cv x hr => ?_) hx
      clear hx
      exact ApC.two (s := 6) (by simp) rfl (fun _ => ak_call (L := 15) (Leaf.str sCStr) hr (by simp) rfl) (fun _ => ak_call (L := 15) (Leaf.str sStr) hr (by simp) rfl)
    refine ApS.cons (o' := q + 2) rfl (fun x hx => ?_) ?_
    · refine af_load (g := apInt 8) (x := x) (s := 14) (pb := b) (po := q) (o := 1) (by simp) (by kernel_rfl) (by kernel_rfl) hB rfl rfl (fun cv x hr => ?_) hx
      clear hx
      exact ak_call (L := 16) (Leaf.int sI64) hr (by simp) rfl
    refine ApS.cons (o' := q + 3) rfl (fun x hx => ?_) ?_
    · refine af_load (g := fun x => if decide (ver ≥ 0) then apCStr x else apStr x) (x := x) (s := 14) (pb := b) (po := q) (o := 2) (by simp) (by kernel_rfl) (by kernel_rfl) hB rfl rfl (fun cv x hr => ?_) hx
      clear hx
      exact ApC.two (s := 6) (by simp) rfl (fun _ => ak_call (L := 17) (Leaf.str sCStr) hr (by simp) rfl) (fun _ => ak_call (L := 17) (Leaf.str sStr) hr (by simp) rfl)
    refine ApS.one (fun x hx => ?_)
    refine ApC.onB (s := 6) (by simp) rfl (fun _ => ?_)
    exact ApC.fits fun hf => ApC.seq (ApC.tags1 (s := 14) (pb := b) (po := q) (o := 3) (by simp) (by kernel_rfl) hx hB tagLenM sUv (by kernel_rfl) (by kernel_rfl) (tags_small hf) rfl) (ApC.tags2 (s := 14) (pb := b) (po := q) (o := 3) (by simp) (by kernel_rfl) hx hB tagEachM rfl)
  refine ApSR.cons (o' := po + 6) rfl (fun x hx => ?_) ?_
  · refine ApC.onB (s := 6) (by simp) rfl (fun _ => ?_)
    exact ApC.fits fun hf => ApC.seq (ApC.tags1 (s := 0) (pb := pb) (po := po) (o := 5) (by simp) (by kernel_rfl) hx hB tagLenM sUv (by kernel_rfl) (by kernel_rfl) (tags_small hf) rfl) (ApC.tags2 (s := 0) (pb := pb) (po := po) (o := 5) (by simp) (by kernel_rfl) hx hB tagEachM rfl)
  exact ApSR.nil (ApR.ret (by decide))
end Go.Proofs.YtleogmaodkgkkaaGreatDoor.ListTransactionsResponse
