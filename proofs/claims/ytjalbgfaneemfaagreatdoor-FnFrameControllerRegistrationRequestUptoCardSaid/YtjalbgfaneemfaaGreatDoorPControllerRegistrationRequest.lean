/- What AppendTo of ControllerRegistrationRequest appends. Printed by gen_app.py. -/
import Derived.Test.YtjalbgfaneemfaaGreatDoorKqSap
import Derived.Test.YtjalbgfaneemfaaGreatDoorKqP06
import Derived.Test.YtjalbgfaneemfaaGreatDoorKqP02
import Derived.Test.YtjalbgfaneemfaaGreatDoorKqP01
set_option linter.unusedVariables false
set_option linter.unusedSimpArgs false
namespace Go.Proofs.YtjalbgfaneemfaaGreatDoor.ControllerRegistrationRequest
open Go.Kq
theorem sUuid : ApUu Tryz.prog 147 := ap_uuid (te := 5) Tryz.func147 (by kernel_rfl) rfl rfl rfl uuidT (by kernel_rfl) octT
def tQListener : List Ty := [.str, .str, .int .u16, .int .i16, .tags]
def tQFeature : List Ty := [.str, .int .i16, .int .i16, .tags]
def tQR : List Ty := [.int .i32, .uuid, .bool, .arr (.st tQListener), .arr (.st tQFeature), .tags]
def gaQListener (ver : Int) : List (V → List UInt8) := [fun x => if decide (ver ≥ 0) then apCStr x else apStr x, fun x => if decide (ver ≥ 0) then apCStr x else apStr x, apInt 2, apInt 2, fun x => if decide (ver ≥ 0) then apTags x else []]
def gaQFeature (ver : Int) : List (V → List UInt8) := [fun x => if decide (ver ≥ 0) then apCStr x else apStr x, apInt 2, apInt 2, fun x => if decide (ver ≥ 0) then apTags x else []]
def gaQ (ver : Int) : List (V → List UInt8) := [apInt 4, apUuid, apBool, fun x => (if decide (ver ≥ 0) then apCLen x.items.length else apLen x.items.length) ++ (x.items.map (apSt (gaQListener ver))).flatten, fun x => (if decide (ver ≥ 0) then apCLen x.items.length else apLen x.items.length) ++ (x.items.map (apSt (gaQFeature ver))).flatten, fun x => if decide (ver ≥ 0) then apTags x else []]
set_option maxRecDepth 20000 in
theorem app (ver : Int) : AppM Tryz.prog 143 (.st (.int .i16 :: tQR)) (apSt ((fun _ => []) :: gaQ ver)) ver := by
  refine app_root (N := 200) (ver := ver) Tryz.func143 (by kernel_rfl) rfl rfl rfl (by decide) ?_;intro e pb po hB hv xs hx;refine ApR.asg rfl (ApR.load (s := 0) (pb := pb) (po := po) (o := 0) (by simp) (by kernel_rfl) (by kernel_rfl) hv hB rfl (ApR.nop rfl (ApR.flag (s := 5) (i := ver) (by simp) rfl rfl (ApR.nop rfl ?_))));refine (show ApSR _ _ _ e _ _ pb (po + 1) tQR (gaQ ver) from ?_) xs hx;clear hx xs;refine ApSR.cons (o' := po + 2) rfl (fun x hx => ?_) ?_
  · refine af_load (g := apInt 4) (x := x) (s := 0) (pb := pb) (po := po) (o := 1) (by simp) (by kernel_rfl) (by kernel_rfl) hB rfl rfl (fun cv x hr => ?_) hx;clear hx;exact ak_call (L := 7) (Leaf.int sI32) hr (by simp) rfl
  refine ApSR.cons (o' := po + 18) rfl (fun x hx => ?_) ?_
  · exact af_uuid (s := 0) (pb := pb) (po := po) (o := 2) (L := 8) sUuid (by simp) (by kernel_rfl) uuidT hB rfl hx
  refine ApSR.cons (o' := po + 19) rfl (fun x hx => ?_) ?_
  · refine af_load (g := apBool) (x := x) (s := 0) (pb := pb) (po := po) (o := 18) (by simp) (by kernel_rfl) (by kernel_rfl) hB rfl rfl (fun cv x hr => ?_) hx;clear hx;exact ak_call (L := 9) (Leaf.bool sBool) hr (by simp) rfl
  refine ApSR.cons (o' := po + 20) rfl (fun x hx => ?_) ?_
  · refine af_load (g := fun x => (if decide (ver ≥ 0) then apCLen x.items.length else apLen x.items.length) ++ (x.items.map (apSt (gaQListener ver))).flatten) (x := x) (s := 0) (pb := pb) (po := po) (o := 19) (by simp) (by kernel_rfl) (by kernel_rfl) hB rfl rfl (fun cv x hr => ?_) hx;clear hx;refine ak_small (t := .st tQListener) (cv := cv) (ys := (x.items.map (apSt (gaQListener ver))).flatten) (ak_items hr (fat_st (fatl_head (fat_two (fat_any apCStr_pos) (fat_any apStr_pos))))) (fun hn => ApC.seq (y1 := if decide (ver ≥ 0) then apCLen x.items.length else apLen x.items.length) (ApC.two (s := 6) (by simp) rfl (fun _ => ak_len (L := 10) sCLen hr hn (by simp) (by kernel_rfl) rfl) (fun _ => ak_len (L := 10) sLen hr hn (by simp) (by kernel_rfl) rfl)) (ak_loop (L := 10) (t := .st tQListener) (g := apSt (gaQListener ver)) hr (by simp) (by kernel_rfl) rfl (fun i y b o' ln cap hi hL hB' hy => ?_))) ((two_pos (apCLen_pos _) (apLen_pos _)));refine ApC.elem (L := 10) (s := 67) (m := 12) (I' := 11) (b := b) (o := o') (i := i) (List.mem_cons_of_mem _ (List.mem_cons_of_mem _ hL)) (by simp) hi (et := 119) (sz := 5) (bs := 48) (by kernel_rfl) rfl ?_;clear hr hB;have hB := hB';rw [show Ty.size (.st tQListener) = 5 from rfl] at hy;generalize o' + i * 5 = q at hy ⊢;refine ApS.st ?_ hy;clear hy;show ApS _ _ e _ _ b (q + 0) tQListener (gaQListener ver)
    refine ApS.cons (o' := q + 1) rfl (fun x hx => ?_) ?_
    · refine af_load (g := fun x => if decide (ver ≥ 0) then apCStr x else apStr x) (x := x) (s := 12) (pb := b) (po := q) (o := 0) (by simp) (by kernel_rfl) (by kernel_rfl) hB rfl rfl (fun cv x hr => ?_) hx;clear hx;exact ApC.two (s := 6) (by simp) rfl (fun _ => ak_call (L := 13) (Leaf.str sCStr) hr (by simp) rfl) (fun _ => ak_call (L := 13) (Leaf.str sStr) hr (by simp) rfl)
    refine ApS.cons (o' := q + 2) rfl (fun x hx => ?_) ?_
    · refine af_load (g := fun x => if decide (ver ≥ 0) then apCStr x else apStr x) (x := x) (s := 12) (pb := b) (po := q) (o := 1) (by simp) (by kernel_rfl) (by kernel_rfl) hB rfl rfl (fun cv x hr => ?_) hx;clear hx;exact ApC.two (s := 6) (by simp) rfl (fun _ => ak_call (L := 14) (Leaf.str sCStr) hr (by simp) rfl) (fun _ => ak_call (L := 14) (Leaf.str sStr) hr (by simp) rfl)
    refine ApS.cons (o' := q + 3) rfl (fun x hx => ?_) ?_
    · refine af_load (g := apInt 2) (x := x) (s := 12) (pb := b) (po := q) (o := 2) (by simp) (by kernel_rfl) (by kernel_rfl) hB rfl rfl (fun cv x hr => ?_) hx;clear hx;exact ak_call (L := 15) (Leaf.int sU16) hr (by simp) rfl
    refine ApS.cons (o' := q + 4) rfl (fun x hx => ?_) ?_
    · refine af_load (g := apInt 2) (x := x) (s := 12) (pb := b) (po := q) (o := 3) (by simp) (by kernel_rfl) (by kernel_rfl) hB rfl rfl (fun cv x hr => ?_) hx;clear hx;exact ak_call (L := 16) (Leaf.int sI16) hr (by simp) rfl
    refine ApS.one (fun x hx => ?_);refine ApC.onB (s := 6) (by simp) rfl (fun _ => ?_);exact ApC.fits fun hf => ApC.seq (ApC.tags1 (s := 12) (pb := b) (po := q) (o := 4) (by simp) (by kernel_rfl) hx hB tagLenM sUv (by kernel_rfl) (by kernel_rfl) (tags_small hf) rfl) (ApC.tags2 (s := 12) (pb := b) (po := q) (o := 4) (by simp) (by kernel_rfl) hx hB tagEachM rfl)
  refine ApSR.cons (o' := po + 21) rfl (fun x hx => ?_) ?_
  · refine af_load (g := fun x => (if decide (ver ≥ 0) then apCLen x.items.length else apLen x.items.length) ++ (x.items.map (apSt (gaQFeature ver))).flatten) (x := x) (s := 0) (pb := pb) (po := po) (o := 20) (by simp) (by kernel_rfl) (by kernel_rfl) hB rfl rfl (fun cv x hr => ?_) hx;clear hx;refine ak_small (t := .st tQFeature) (cv := cv) (ys := (x.items.map (apSt (gaQFeature ver))).flatten) (ak_items hr (fat_st (fatl_head (fat_two (fat_any apCStr_pos) (fat_any apStr_pos))))) (fun hn => ApC.seq (y1 := if decide (ver ≥ 0) then apCLen x.items.length else apLen x.items.length) (ApC.two (s := 6) (by simp) rfl (fun _ => ak_len (L := 17) sCLen hr hn (by simp) (by kernel_rfl) rfl) (fun _ => ak_len (L := 17) sLen hr hn (by simp) (by kernel_rfl) rfl)) (ak_loop (L := 17) (t := .st tQFeature) (g := apSt (gaQFeature ver)) hr (by simp) (by kernel_rfl) rfl (fun i y b o' ln cap hi hL hB' hy => ?_))) ((two_pos (apCLen_pos _) (apLen_pos _)));refine ApC.elem (L := 17) (s := 139) (m := 19) (I' := 18) (b := b) (o := o') (i := i) (List.mem_cons_of_mem _ (List.mem_cons_of_mem _ hL)) (by simp) hi (et := 126) (sz := 4) (bs := 32) (by kernel_rfl) rfl ?_;clear hr hB;have hB := hB';rw [show Ty.size (.st tQFeature) = 4 from rfl] at hy;generalize o' + i * 4 = q at hy ⊢;refine ApS.st ?_ hy;clear hy;show ApS _ _ e _ _ b (q + 0) tQFeature (gaQFeature ver)
    refine ApS.cons (o' := q + 1) rfl (fun x hx => ?_) ?_
    · refine af_load (g := fun x => if decide (ver ≥ 0) then apCStr x else apStr x) (x := x) (s := 19) (pb := b) (po := q) (o := 0) (by simp) (by kernel_rfl) (by kernel_rfl) hB rfl rfl (fun cv x hr => ?_) hx;clear hx;exact ApC.two (s := 6) (by simp) rfl (fun _ => ak_call (L := 20) (Leaf.str sCStr) hr (by simp) rfl) (fun _ => ak_call (L := 20) (Leaf.str sStr) hr (by simp) rfl)
    refine ApS.cons (o' := q + 2) rfl (fun x hx => ?_) ?_
    · refine af_load (g := apInt 2) (x := x) (s := 19) (pb := b) (po := q) (o := 1) (by simp) (by kernel_rfl) (by kernel_rfl) hB rfl rfl (fun cv x hr => ?_) hx;clear hx;exact ak_call (L := 21) (Leaf.int sI16) hr (by simp) rfl
    refine ApS.cons (o' := q + 3) rfl (fun x hx => ?_) ?_
    · refine af_load (g := apInt 2) (x := x) (s := 19) (pb := b) (po := q) (o := 2) (by simp) (by kernel_rfl) (by kernel_rfl) hB rfl rfl (fun cv x hr => ?_) hx;clear hx;exact ak_call (L := 22) (Leaf.int sI16) hr (by simp) rfl
    refine ApS.one (fun x hx => ?_);refine ApC.onB (s := 6) (by simp) rfl (fun _ => ?_);exact ApC.fits fun hf => ApC.seq (ApC.tags1 (s := 19) (pb := b) (po := q) (o := 3) (by simp) (by kernel_rfl) hx hB tagLenM sUv (by kernel_rfl) (by kernel_rfl) (tags_small hf) rfl) (ApC.tags2 (s := 19) (pb := b) (po := q) (o := 3) (by simp) (by kernel_rfl) hx hB tagEachM rfl)
  refine ApSR.cons (o' := po + 22) rfl (fun x hx => ?_) ?_
  · refine ApC.onB (s := 6) (by simp) rfl (fun _ => ?_);exact ApC.fits fun hf => ApC.seq (ApC.tags1 (s := 0) (pb := pb) (po := po) (o := 21) (by simp) (by kernel_rfl) hx hB tagLenM sUv (by kernel_rfl) (by kernel_rfl) (tags_small hf) rfl) (ApC.tags2 (s := 0) (pb := pb) (po := po) (o := 21) (by simp) (by kernel_rfl) hx hB tagEachM rfl)
  exact ApSR.nil (ApR.ret (by decide))
end Go.Proofs.YtjalbgfaneemfaaGreatDoor.ControllerRegistrationRequest
