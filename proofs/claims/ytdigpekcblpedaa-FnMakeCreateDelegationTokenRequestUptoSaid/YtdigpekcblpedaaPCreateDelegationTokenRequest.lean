/- What AppendTo of CreateDelegationTokenRequest appends. Printed by gen_app.py. -/
import Derived.Test.YtdigpekcblpedaaKqSaT
import Derived.Test.YtdigpekcblpedaaKqP05
import Derived.Test.YtdigpekcblpedaaKqP01
import Derived.Test.YtdigpekcblpedaaKqP04
import Derived.Laws.IdiomCopy
set_option linter.unusedVariables false
set_option linter.unusedSimpArgs false
namespace Go.Proofs.Ytdigpekcblpedaa.CreateDelegationTokenRequest
open Go.Kq
def tQRenewer : List Ty := [.str, .str, .tags]
def tQR : List Ty := [.pstr, .pstr, .arr (.st tQRenewer), .int .i64, .tags]
def gaQRenewer (ver : Int) : List (V → List UInt8) := [fun x => if decide (ver ≥ 2) then apCStr x else apStr x, fun x => if decide (ver ≥ 2) then apCStr x else apStr x, fun x => if decide (ver ≥ 2) then apTags x else []]
def gaQ (ver : Int) : List (V → List UInt8) := [fun x => if decide (ver ≥ 3) then (fun x => if decide (ver ≥ 2) then apCNStr x else apNStr x) x else [], fun x => if decide (ver ≥ 3) then (fun x => if decide (ver ≥ 2) then apCNStr x else apNStr x) x else [], fun x => (if decide (ver ≥ 2) then apCLen x.items.length else apLen x.items.length) ++ (x.items.map (apSt (gaQRenewer ver))).flatten, apInt 8, fun x => if decide (ver ≥ 2) then apTags x else []]
set_option maxRecDepth 20000 in
theorem app (ver : Int) : AppM Try.prog 57 (.st (.int .i16 :: tQR)) (apSt ((fun _ => []) :: gaQ ver)) ver := by
  refine app_root (N := 129) (ver := ver) Try.func57 (by kernel_rfl) rfl rfl rfl (by decide) ?_
  intro e pb po hB hv xs hx
  refine ApR.asg rfl (ApR.load (s := 0) (pb := pb) (po := po) (o := 0) (by simp) (by kernel_rfl) (by kernel_rfl) hv hB rfl (ApR.nop rfl (ApR.flag (s := 5) (i := ver) (by simp) rfl rfl (ApR.nop rfl ?_))))
  refine (show ApSR _ _ _ e _ _ pb (po + 1) tQR (gaQ ver) from ?_) xs hx
  clear hx xs
  refine ApSR.cons (o' := po + 2) rfl (fun x hx => ?_) ?_
  · refine ApC.on (s := 5) (i := ver) (by simp) rfl rfl (fun _ => ?_)
    refine af_load (g := fun x => if decide (ver ≥ 2) then apCNStr x else apNStr x) (x := x) (s := 0) (pb := pb) (po := po) (o := 1) (by simp) (by kernel_rfl) (by kernel_rfl) hB rfl rfl (fun cv x hr => ?_) hx
    clear hx
    exact ApC.two (s := 6) (by simp) rfl (fun _ => ak_call (L := 7) (Leaf.pstr sCNStr) hr (by simp) rfl) (fun _ => ak_call (L := 7) (Leaf.pstr sNStr) hr (by simp) rfl)
  refine ApSR.cons (o' := po + 3) rfl (fun x hx => ?_) ?_
  · refine ApC.on (s := 5) (i := ver) (by simp) rfl rfl (fun _ => ?_)
    refine af_load (g := fun x => if decide (ver ≥ 2) then apCNStr x else apNStr x) (x := x) (s := 0) (pb := pb) (po := po) (o := 2) (by simp) (by kernel_rfl) (by kernel_rfl) hB rfl rfl (fun cv x hr => ?_) hx
    clear hx
    exact ApC.two (s := 6) (by simp) rfl (fun _ => ak_call (L := 8) (Leaf.pstr sCNStr) hr (by simp) rfl) (fun _ => ak_call (L := 8) (Leaf.pstr sNStr) hr (by simp) rfl)
  refine ApSR.cons (o' := po + 4) rfl (fun x hx => ?_) ?_
  · refine af_load (g := fun x => (if decide (ver ≥ 2) then apCLen x.items.length else apLen x.items.length) ++ (x.items.map (apSt (gaQRenewer ver))).flatten) (x := x) (s := 0) (pb := pb) (po := po) (o := 3) (by simp) (by kernel_rfl) (by kernel_rfl) hB rfl rfl (fun cv x hr => ?_) hx
    clear hx
    refine ak_small (t := .st tQRenewer) (cv := cv) (ys := (x.items.map (apSt (gaQRenewer ver))).flatten) (ak_items hr (fat_st (fatl_head (fat_two (fat_any apCStr_pos) (fat_any apStr_pos))))) (fun hn => ApC.seq (y1 := if decide (ver ≥ 2) then apCLen x.items.length else apLen x.items.length) (ApC.two (s := 6) (by simp) rfl (fun _ => ak_len (L := 9) sCLen hr hn (by simp) (by kernel_rfl) rfl) (fun _ => ak_len (L := 9) sLen hr hn (by simp) (by kernel_rfl) rfl)) (ak_loop (L := 9) (t := .st tQRenewer) (g := apSt (gaQRenewer ver)) hr (by simp) (by kernel_rfl) rfl (fun i y b o' ln cap hi hL hB' hy => ?_))) ((two_pos (apCLen_pos _) (apLen_pos _)))
    refine ApC.elem (L := 9) (s := 64) (m := 11) (I' := 10) (b := b) (o := o') (i := i) (List.mem_cons_of_mem _ (List.mem_cons_of_mem _ hL)) (by simp) hi (et := 122) (sz := 3) (bs := 40) (by kernel_rfl) rfl ?_
    clear hr hB
    have hB := hB'
    rw [show Ty.size (.st tQRenewer) = 3 from rfl] at hy
    generalize o' + i * 3 = q at hy ⊢
    refine ApS.st ?_ hy
    clear hy
    show ApS _ _ e _ _ b (q + 0) tQRenewer (gaQRenewer ver)
    refine ApS.cons (o' := q + 1) rfl (fun x hx => ?_) ?_
    · refine af_load (g := fun x => if decide (ver ≥ 2) then apCStr x else apStr x) (x := x) (s := 11) (pb := b) (po := q) (o := 0) (by simp) (by kernel_rfl) (by kernel_rfl) hB rfl rfl (fun cv x hr => ?_) hx
      clear hx
      exact ApC.two (s := 6) (by simp) rfl (fun _ => ak_call (L := 12) (Leaf.str sCStr) hr (by simp) rfl) (fun _ => ak_call (L := 12) (Leaf.str sStr) hr (by simp) rfl)
    refine ApS.cons (o' := q + 2) rfl (fun x hx => ?_) ?_
    · refine af_load (g := fun x => if decide (ver ≥ 2) then apCStr x else apStr x) (x := x) (s := 11) (pb := b) (po := q) (o := 1) (by simp) (by kernel_rfl) (by kernel_rfl) hB rfl rfl (fun cv x hr => ?_) hx
      clear hx
      exact ApC.two (s := 6) (by simp) rfl (fun _ => ak_call (L := 13) (Leaf.str sCStr) hr (by simp) rfl) (fun _ => ak_call (L := 13) (Leaf.str sStr) hr (by simp) rfl)
    refine ApS.one (fun x hx => ?_)
    refine ApC.onB (s := 6) (by simp) rfl (fun _ => ?_)
    exact ApC.fits fun hf => ApC.seq (ApC.tags1 (s := 11) (pb := b) (po := q) (o := 2) (by simp) (by kernel_rfl) hx hB tagLenM sUv (by kernel_rfl) (by kernel_rfl) (tags_small hf) rfl) (ApC.tags2 (s := 11) (pb := b) (po := q) (o := 2) (by simp) (by kernel_rfl) hx hB tagEachM rfl)
  refine ApSR.cons (o' := po + 5) rfl (fun x hx => ?_) ?_
  · refine af_load (g := apInt 8) (x := x) (s := 0) (pb := pb) (po := po) (o := 4) (by simp) (by kernel_rfl) (by kernel_rfl) hB rfl rfl (fun cv x hr => ?_) hx
    clear hx
    exact ak_call (L := 14) (Leaf.int sI64) hr (by simp) rfl
  refine ApSR.cons (o' := po + 6) rfl (fun x hx => ?_) ?_
  · refine ApC.onB (s := 6) (by simp) rfl (fun _ => ?_)
    exact ApC.fits fun hf => ApC.seq (ApC.tags1 (s := 0) (pb := pb) (po := po) (o := 5) (by simp) (by kernel_rfl) hx hB tagLenM sUv (by kernel_rfl) (by kernel_rfl) (tags_small hf) rfl) (ApC.tags2 (s := 0) (pb := pb) (po := po) (o := 5) (by simp) (by kernel_rfl) hx hB tagEachM rfl)
  exact ApSR.nil (ApR.ret (by decide))
end Go.Proofs.Ytdigpekcblpedaa.CreateDelegationTokenRequest
