/- What AppendTo of DeleteTopicsResponse appends. Printed by gen_app.py. -/
import Derived.Test.YtokkeelmccdcaaaGreatDoorKqSap
import Derived.Test.YtokkeelmccdcaaaGreatDoorKqP06
set_option linter.unusedVariables false
set_option linter.unusedSimpArgs false
namespace Go.Proofs.YtokkeelmccdcaaaGreatDoor.DeleteTopicsResponse
open Go.Kq
theorem sUuid : ApUu Tryz.prog 62 := ap_uuid (te := 5) Tryz.func62 (by kernel_rfl) rfl rfl rfl uuidT (by kernel_rfl) octT
def tQTopic : List Ty := [.pstr, .uuid, .int .i16, .pstr, .tags]
def tQR : List Ty := [.int .i32, .arr (.st tQTopic), .tags]
def gaQTopic (ver : Int) : List (V → List UInt8) := [fun x => if decide (ver < 6) then (if decide (ver ≥ 4) then apCStr x else apStr x) else (if decide (ver ≥ 4) then apCNStr x else apNStr x), fun x => if decide (ver ≥ 6) then (apUuid) x else [], apInt 2, fun x => if decide (ver ≥ 5) then (fun x => if decide (ver ≥ 4) then apCNStr x else apNStr x) x else [], fun x => if decide (ver ≥ 4) then apTags x else []]
def gaQ (ver : Int) : List (V → List UInt8) := [fun x => if decide (ver ≥ 1) then (apInt 4) x else [], fun x => (if decide (ver ≥ 4) then apCLen x.items.length else apLen x.items.length) ++ (x.items.map (apSt (gaQTopic ver))).flatten, fun x => if decide (ver ≥ 4) then apTags x else []]
set_option maxRecDepth 20000 in
theorem app (ver : Int) : AppM Tryz.prog 35 (.st (.int .i16 :: tQR)) (apSt ((fun _ => []) :: gaQ ver)) ver := by
  refine app_root (N := 140) (ver := ver) Tryz.func35 (by kernel_rfl) rfl rfl rfl (by decide) ?_;intro e pb po hB hv xs hx;refine ApR.asg rfl (ApR.load (s := 0) (pb := pb) (po := po) (o := 0) (by simp) (by kernel_rfl) (by kernel_rfl) hv hB rfl (ApR.nop rfl (ApR.flag (s := 5) (i := ver) (by simp) rfl rfl (ApR.nop rfl ?_))));refine (show ApSR _ _ _ e _ _ pb (po + 1) tQR (gaQ ver) from ?_) xs hx;clear hx xs;refine ApSR.cons (o' := po + 2) rfl (fun x hx => ?_) ?_
  · refine ApC.on (s := 5) (i := ver) (by simp) rfl rfl (fun _ => ?_);refine af_load (g := apInt 4) (x := x) (s := 0) (pb := pb) (po := po) (o := 1) (by simp) (by kernel_rfl) (by kernel_rfl) hB rfl rfl (fun cv x hr => ?_) hx;clear hx;exact ak_call (L := 7) (Leaf.int sI32) hr (by simp) rfl
  refine ApSR.cons (o' := po + 3) rfl (fun x hx => ?_) ?_
  · refine af_load (g := fun x => (if decide (ver ≥ 4) then apCLen x.items.length else apLen x.items.length) ++ (x.items.map (apSt (gaQTopic ver))).flatten) (x := x) (s := 0) (pb := pb) (po := po) (o := 2) (by simp) (by kernel_rfl) (by kernel_rfl) hB rfl rfl (fun cv x hr => ?_) hx;clear hx;refine ak_small (t := .st tQTopic) (cv := cv) (ys := (x.items.map (apSt (gaQTopic ver))).flatten) (ak_items hr (fat_st (fatl_tail (fatl_tail (fatl_head (fat_int (by decide))))))) (fun hn => ApC.seq (y1 := if decide (ver ≥ 4) then apCLen x.items.length else apLen x.items.length) (ApC.two (s := 6) (by simp) rfl (fun _ => ak_len (L := 8) sCLen hr hn (by simp) (by kernel_rfl) rfl) (fun _ => ak_len (L := 8) sLen hr hn (by simp) (by kernel_rfl) rfl)) (ak_loop (L := 8) (t := .st tQTopic) (g := apSt (gaQTopic ver)) hr (by simp) (by kernel_rfl) rfl (fun i y b o' ln cap hi hL hB' hy => ?_))) ((two_pos (apCLen_pos _) (apLen_pos _)));refine ApC.elem (L := 8) (s := 49) (m := 10) (I' := 9) (b := b) (o := o') (i := i) (List.mem_cons_of_mem _ (List.mem_cons_of_mem _ hL)) (by simp) hi (et := 122) (sz := 20) (bs := 48) (by kernel_rfl) rfl ?_;clear hr hB;have hB := hB';rw [show Ty.size (.st tQTopic) = 20 from rfl] at hy;generalize o' + i * 20 = q at hy ⊢;refine ApS.st ?_ hy;clear hy;show ApS _ _ e _ _ b (q + 0) tQTopic (gaQTopic ver)
    refine ApS.cons (o' := q + 1) rfl (fun x hx => ?_) ?_
    · refine af_load (g := fun x => if decide (ver < 6) then (if decide (ver ≥ 4) then apCStr x else apStr x) else (if decide (ver ≥ 4) then apCNStr x else apNStr x)) (x := x) (s := 10) (pb := b) (po := q) (o := 0) (by simp) (by kernel_rfl) (by kernel_rfl) hB rfl rfl (fun cv x hr => ?_) hx;clear hx;refine ApC.alt (s := 5) (i := ver) (by simp) rfl rfl (fun _ => ?_) (fun _ => ?_)
      · refine ApC.old (L := 11) (L' := 12) (by simp) hr (by kernel_rfl) (by kernel_rfl) rfl (fun cv l hr2 ho => ?_);rw [apCStr_of (y := .s l) ho, apStr_of (y := .s l) ho];clear hr;have hr := hr2;refine ApC.copy (L := 12) (L' := 13) (cv := cv) (by simp) rfl ?_;exact ApC.two (s := 6) (by simp) rfl (fun _ => ak_call (L := 13) (Leaf.str sCStr) hr (by simp) rfl) (fun _ => ak_call (L := 13) (Leaf.str sStr) hr (by simp) rfl)
      exact ApC.two (s := 6) (by simp) rfl (fun _ => ak_call (L := 11) (Leaf.pstr sCNStr) hr (by simp) rfl) (fun _ => ak_call (L := 11) (Leaf.pstr sNStr) hr (by simp) rfl)
    refine ApS.cons (o' := q + 17) rfl (fun x hx => ?_) ?_
    · refine ApC.on (s := 5) (i := ver) (by simp) rfl rfl (fun _ => ?_);exact af_uuid (s := 10) (pb := b) (po := q) (o := 1) (L := 14) sUuid (by simp) (by kernel_rfl) uuidT hB rfl hx
    refine ApS.cons (o' := q + 18) rfl (fun x hx => ?_) ?_
    · refine af_load (g := apInt 2) (x := x) (s := 10) (pb := b) (po := q) (o := 17) (by simp) (by kernel_rfl) (by kernel_rfl) hB rfl rfl (fun cv x hr => ?_) hx;clear hx;exact ak_call (L := 15) (Leaf.int sI16) hr (by simp) rfl
    refine ApS.cons (o' := q + 19) rfl (fun x hx => ?_) ?_
    · refine ApC.on (s := 5) (i := ver) (by simp) rfl rfl (fun _ => ?_);refine af_load (g := fun x => if decide (ver ≥ 4) then apCNStr x else apNStr x) (x := x) (s := 10) (pb := b) (po := q) (o := 18) (by simp) (by kernel_rfl) (by kernel_rfl) hB rfl rfl (fun cv x hr => ?_) hx;clear hx;exact ApC.two (s := 6) (by simp) rfl (fun _ => ak_call (L := 16) (Leaf.pstr sCNStr) hr (by simp) rfl) (fun _ => ak_call (L := 16) (Leaf.pstr sNStr) hr (by simp) rfl)
    refine ApS.one (fun x hx => ?_);refine ApC.onB (s := 6) (by simp) rfl (fun _ => ?_);exact ApC.fits fun hf => ApC.seq (ApC.tags1 (s := 10) (pb := b) (po := q) (o := 19) (by simp) (by kernel_rfl) hx hB tagLenM sUv (by kernel_rfl) (by kernel_rfl) (tags_small hf) rfl) (ApC.tags2 (s := 10) (pb := b) (po := q) (o := 19) (by simp) (by kernel_rfl) hx hB tagEachM rfl)
  refine ApSR.cons (o' := po + 4) rfl (fun x hx => ?_) ?_
  · refine ApC.onB (s := 6) (by simp) rfl (fun _ => ?_);exact ApC.fits fun hf => ApC.seq (ApC.tags1 (s := 0) (pb := pb) (po := po) (o := 3) (by simp) (by kernel_rfl) hx hB tagLenM sUv (by kernel_rfl) (by kernel_rfl) (tags_small hf) rfl) (ApC.tags2 (s := 0) (pb := pb) (po := po) (o := 3) (by simp) (by kernel_rfl) hx hB tagEachM rfl)
  exact ApSR.nil (ApR.ret (by decide))
end Go.Proofs.YtokkeelmccdcaaaGreatDoor.DeleteTopicsResponse
