/- What AppendTo of OffsetForLeaderEpochRequest appends. Printed by gen_app.py. -/
import Derived.Test.YtfapegflnipofaaGreatDoorKqSap
import Derived.Test.YtfapegflnipofaaGreatDoorKqP06
set_option linter.unusedVariables false
set_option linter.unusedSimpArgs false
namespace Go.Proofs.YtfapegflnipofaaGreatDoor.OffsetForLeaderEpochRequest
open Go.Kq
def tOffsetForLeaderEpochRequestTopicPartition : List Ty := [.int .i32, .int .i32, .int .i32, .tags]
def tOffsetForLeaderEpochRequestTopic : List Ty := [.str, .arr (.st tOffsetForLeaderEpochRequestTopicPartition), .tags]
def tOffsetForLeaderEpochRequestR : List Ty := [.int .i32, .arr (.st tOffsetForLeaderEpochRequestTopic), .tags]
def gaOffsetForLeaderEpochRequestTopicPartition (ver : Int) : List (V → List UInt8) := [apInt 4, fun x => if decide (ver ≥ 2) then (apInt 4) x else [], apInt 4, fun x => if decide (ver ≥ 4) then apTags x else []]
def gaOffsetForLeaderEpochRequestTopic (ver : Int) : List (V → List UInt8) := [fun x => if decide (ver ≥ 4) then apCStr x else apStr x, fun x => (if decide (ver ≥ 4) then apCLen x.items.length else apLen x.items.length) ++ (x.items.map (apSt (gaOffsetForLeaderEpochRequestTopicPartition ver))).flatten, fun x => if decide (ver ≥ 4) then apTags x else []]
def gaOffsetForLeaderEpochRequest (ver : Int) : List (V → List UInt8) := [fun x => if decide (ver ≥ 3) then (apInt 4) x else [], fun x => (if decide (ver ≥ 4) then apCLen x.items.length else apLen x.items.length) ++ (x.items.map (apSt (gaOffsetForLeaderEpochRequestTopic ver))).flatten, fun x => if decide (ver ≥ 4) then apTags x else []]
set_option maxRecDepth 20000 in
theorem app (ver : Int) : AppM Tryz.prog 44 (.st (.int .i16 :: tOffsetForLeaderEpochRequestR)) (apSt ((fun _ => []) :: gaOffsetForLeaderEpochRequest ver)) ver := by
  refine app_root (N := 156) (ver := ver) Tryz.func44 (by kernel_rfl) rfl rfl rfl (by decide) ?_
  intro e pb po hB hv xs hx
  refine ApR.asg rfl (ApR.load (s := 0) (pb := pb) (po := po) (o := 0) (by simp) (by kernel_rfl) (by kernel_rfl) hv hB rfl (ApR.nop rfl (ApR.flag (s := 5) (i := ver) (by simp) rfl rfl (ApR.nop rfl ?_))))
  refine (show ApSR _ _ _ e _ _ pb (po + 1) tOffsetForLeaderEpochRequestR (gaOffsetForLeaderEpochRequest ver) from ?_) xs hx
  clear hx xs
  refine ApSR.cons (o' := po + 2) rfl (fun x hx => ?_) ?_
  · refine ApC.on (s := 5) (i := ver) (by simp) rfl rfl (fun _ => ?_)
    refine af_load (g := apInt 4) (x := x) (s := 0) (pb := pb) (po := po) (o := 1) (by simp) (by kernel_rfl) (by kernel_rfl) hB rfl rfl (fun cv x hr => ?_) hx
    clear hx
    exact ak_call (L := 7) (Leaf.int sI32) hr (by simp) rfl
  refine ApSR.cons (o' := po + 3) rfl (fun x hx => ?_) ?_
  · refine af_load (g := fun x => (if decide (ver ≥ 4) then apCLen x.items.length else apLen x.items.length) ++ (x.items.map (apSt (gaOffsetForLeaderEpochRequestTopic ver))).flatten) (x := x) (s := 0) (pb := pb) (po := po) (o := 2) (by simp) (by kernel_rfl) (by kernel_rfl) hB rfl rfl (fun cv x hr => ?_) hx
    clear hx
    refine ak_small (t := .st tOffsetForLeaderEpochRequestTopic) (cv := cv) (ys := (x.items.map (apSt (gaOffsetForLeaderEpochRequestTopic ver))).flatten) (ak_items hr (fat_st (fatl_head (fat_two (fat_any apCStr_pos) (fat_any apStr_pos))))) (fun hn => ApC.seq (y1 := if decide (ver ≥ 4) then apCLen x.items.length else apLen x.items.length) (ApC.two (s := 6) (by simp) rfl (fun _ => ak_len (L := 8) sCLen hr hn (by simp) (by kernel_rfl) rfl) (fun _ => ak_len (L := 8) sLen hr hn (by simp) (by kernel_rfl) rfl)) (ak_loop (L := 8) (t := .st tOffsetForLeaderEpochRequestTopic) (g := apSt (gaOffsetForLeaderEpochRequestTopic ver)) hr (by simp) (by kernel_rfl) rfl (fun i y b o' ln cap hi hL hB' hy => ?_))) ((two_pos (apCLen_pos _) (apLen_pos _)))
    refine ApC.elem (L := 8) (s := 50) (m := 10) (I' := 9) (b := b) (o := o') (i := i) (List.mem_cons_of_mem _ (List.mem_cons_of_mem _ hL)) (by simp) hi (et := 99) (sz := 3) (bs := 48) (by kernel_rfl) rfl ?_
    clear hr hB
    have hB := hB'
    rw [show Ty.size (.st tOffsetForLeaderEpochRequestTopic) = 3 from rfl] at hy
    generalize o' + i * 3 = q at hy ⊢
    refine ApS.st ?_ hy
    clear hy
    show ApS _ _ e _ _ b (q + 0) tOffsetForLeaderEpochRequestTopic (gaOffsetForLeaderEpochRequestTopic ver)
    refine ApS.cons (o' := q + 1) rfl (fun x hx => ?_) ?_
    · refine af_load (g := fun x => if decide (ver ≥ 4) then apCStr x else apStr x) (x := x) (s := 10) (pb := b) (po := q) (o := 0) (by simp) (by kernel_rfl) (by kernel_rfl) hB rfl rfl (fun cv x hr => ?_) hx
      clear hx
      exact ApC.two (s := 6) (by simp) rfl (fun _ => ak_call (L := 11) (Leaf.str sCStr) hr (by simp) rfl) (fun _ => ak_call (L := 11) (Leaf.str sStr) hr (by simp) rfl)
    refine ApS.cons (o' := q + 2) rfl (fun x hx => ?_) ?_
    · refine af_load (g := fun x => (if decide (ver ≥ 4) then apCLen x.items.length else apLen x.items.length) ++ (x.items.map (apSt (gaOffsetForLeaderEpochRequestTopicPartition ver))).flatten) (x := x) (s := 10) (pb := b) (po := q) (o := 1) (by simp) (by kernel_rfl) (by kernel_rfl) hB rfl rfl (fun cv x hr => ?_) hx
      clear hx
      refine ak_small (t := .st tOffsetForLeaderEpochRequestTopicPartition) (cv := cv) (ys := (x.items.map (apSt (gaOffsetForLeaderEpochRequestTopicPartition ver))).flatten) (ak_items hr (fat_st (fatl_head (fat_int (by decide))))) (fun hn => ApC.seq (y1 := if decide (ver ≥ 4) then apCLen x.items.length else apLen x.items.length) (ApC.two (s := 6) (by simp) rfl (fun _ => ak_len (L := 12) sCLen hr hn (by simp) (by kernel_rfl) rfl) (fun _ => ak_len (L := 12) sLen hr hn (by simp) (by kernel_rfl) rfl)) (ak_loop (L := 12) (t := .st tOffsetForLeaderEpochRequestTopicPartition) (g := apSt (gaOffsetForLeaderEpochRequestTopicPartition ver)) hr (by simp) (by kernel_rfl) rfl (fun i y b o' ln cap hi hL hB' hy => ?_))) ((two_pos (apCLen_pos _) (apLen_pos _)))
      refine ApC.elem (L := 12) (s := 82) (m := 14) (I' := 13) (b := b) (o := o') (i := i) (List.mem_cons_of_mem _ (List.mem_cons_of_mem _ hL)) (by simp) hi (et := 102) (sz := 4) (bs := 24) (by kernel_rfl) rfl ?_
      clear hr hB
      have hB := hB'
      rw [show Ty.size (.st tOffsetForLeaderEpochRequestTopicPartition) = 4 from rfl] at hy
      generalize o' + i * 4 = q at hy ⊢
      refine ApS.st ?_ hy
      clear hy
      show ApS _ _ e _ _ b (q + 0) tOffsetForLeaderEpochRequestTopicPartition (gaOffsetForLeaderEpochRequestTopicPartition ver)
      refine ApS.cons (o' := q + 1) rfl (fun x hx => ?_) ?_
      · refine af_load (g := apInt 4) (x := x) (s := 14) (pb := b) (po := q) (o := 0) (by simp) (by kernel_rfl) (by kernel_rfl) hB rfl rfl (fun cv x hr => ?_) hx
        clear hx
        exact ak_call (L := 15) (Leaf.int sI32) hr (by simp) rfl
      refine ApS.cons (o' := q + 2) rfl (fun x hx => ?_) ?_
      · refine ApC.on (s := 5) (i := ver) (by simp) rfl rfl (fun _ => ?_)
        refine af_load (g := apInt 4) (x := x) (s := 14) (pb := b) (po := q) (o := 1) (by simp) (by kernel_rfl) (by kernel_rfl) hB rfl rfl (fun cv x hr => ?_) hx
        clear hx
        exact ak_call (L := 16) (Leaf.int sI32) hr (by simp) rfl
      refine ApS.cons (o' := q + 3) rfl (fun x hx => ?_) ?_
      · refine af_load (g := apInt 4) (x := x) (s := 14) (pb := b) (po := q) (o := 2) (by simp) (by kernel_rfl) (by kernel_rfl) hB rfl rfl (fun cv x hr => ?_) hx
        clear hx
        exact ak_call (L := 17) (Leaf.int sI32) hr (by simp) rfl
      refine ApS.one (fun x hx => ?_)
      refine ApC.onB (s := 6) (by simp) rfl (fun _ => ?_)
      exact ApC.fits fun hf => ApC.seq (ApC.tags1 (s := 14) (pb := b) (po := q) (o := 3) (by simp) (by kernel_rfl) hx hB tagLenM sUv (by kernel_rfl) (by kernel_rfl) (tags_small hf) rfl) (ApC.tags2 (s := 14) (pb := b) (po := q) (o := 3) (by simp) (by kernel_rfl) hx hB tagEachM rfl)
    refine ApS.one (fun x hx => ?_)
    refine ApC.onB (s := 6) (by simp) rfl (fun _ => ?_)
    exact ApC.fits fun hf => ApC.seq (ApC.tags1 (s := 10) (pb := b) (po := q) (o := 2) (by simp) (by kernel_rfl) hx hB tagLenM sUv (by kernel_rfl) (by kernel_rfl) (tags_small hf) rfl) (ApC.tags2 (s := 10) (pb := b) (po := q) (o := 2) (by simp) (by kernel_rfl) hx hB tagEachM rfl)
  refine ApSR.cons (o' := po + 4) rfl (fun x hx => ?_) ?_
  · refine ApC.onB (s := 6) (by simp) rfl (fun _ => ?_)
    exact ApC.fits fun hf => ApC.seq (ApC.tags1 (s := 0) (pb := pb) (po := po) (o := 3) (by simp) (by kernel_rfl) hx hB tagLenM sUv (by kernel_rfl) (by kernel_rfl) (tags_small hf) rfl) (ApC.tags2 (s := 0) (pb := pb) (po := po) (o := 3) (by simp) (by kernel_rfl) hx hB tagEachM rfl)
  exact ApSR.nil (ApR.ret (by decide))
end Go.Proofs.YtfapegflnipofaaGreatDoor.OffsetForLeaderEpochRequest
