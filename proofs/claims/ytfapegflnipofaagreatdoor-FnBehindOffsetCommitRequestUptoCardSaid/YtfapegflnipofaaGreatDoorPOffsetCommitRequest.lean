/- What AppendTo of OffsetCommitRequest appends. Printed by gen_app.py. -/
import Derived.Test.YtfapegflnipofaaGreatDoorKqSap
import Derived.Test.YtfapegflnipofaaGreatDoorKqP06
import Derived.Test.YtfapegflnipofaaGreatDoorKqP02
import Derived.Test.YtfapegflnipofaaGreatDoorKqP01
set_option linter.unusedVariables false
set_option linter.unusedSimpArgs false
namespace Go.Proofs.YtfapegflnipofaaGreatDoor.OffsetCommitRequest
open Go.Kq
theorem sUuid : ApUu Tryz.prog 100 := ap_uuid (te := 5) Tryz.func100 (by kernel_rfl) rfl rfl rfl uuidT (by kernel_rfl) octT
def tOffsetCommitRequestTopicPartition : List Ty := [.int .i32, .int .i64, .int .i64, .int .i32, .pstr, .tags]
def tOffsetCommitRequestTopic : List Ty := [.str, .uuid, .arr (.st tOffsetCommitRequestTopicPartition), .tags]
def tOffsetCommitRequestR : List Ty := [.str, .int .i32, .str, .pstr, .int .i64, .arr (.st tOffsetCommitRequestTopic), .tags]
def gaOffsetCommitRequestTopicPartition (ver : Int) : List (V → List UInt8) := [apInt 4, apInt 8, fun x => if decide (ver ≥ 1) && decide (ver ≤ 1) then (apInt 8) x else [], fun x => if decide (ver ≥ 6) then (apInt 4) x else [], fun x => if decide (ver ≥ 8) then apCNStr x else apNStr x, fun x => if decide (ver ≥ 8) then apTags x else []]
def gaOffsetCommitRequestTopic (ver : Int) : List (V → List UInt8) := [fun x => if decide (ver ≥ 0) && decide (ver ≤ 9) then (fun x => if decide (ver ≥ 8) then apCStr x else apStr x) x else [], fun x => if decide (ver ≥ 10) then (apUuid) x else [], fun x => (if decide (ver ≥ 8) then apCLen x.items.length else apLen x.items.length) ++ (x.items.map (apSt (gaOffsetCommitRequestTopicPartition ver))).flatten, fun x => if decide (ver ≥ 8) then apTags x else []]
def gaOffsetCommitRequest (ver : Int) : List (V → List UInt8) := [fun x => if decide (ver ≥ 8) then apCStr x else apStr x, fun x => if decide (ver ≥ 1) then (apInt 4) x else [], fun x => if decide (ver ≥ 1) then (fun x => if decide (ver ≥ 8) then apCStr x else apStr x) x else [], fun x => if decide (ver ≥ 7) then (fun x => if decide (ver ≥ 8) then apCNStr x else apNStr x) x else [], fun x => if decide (ver ≥ 2) && decide (ver ≤ 4) then (apInt 8) x else [], fun x => (if decide (ver ≥ 8) then apCLen x.items.length else apLen x.items.length) ++ (x.items.map (apSt (gaOffsetCommitRequestTopic ver))).flatten, fun x => if decide (ver ≥ 8) then apTags x else []]
set_option maxRecDepth 20000 in
theorem app (ver : Int) : AppM Tryz.prog 50 (.st (.int .i16 :: tOffsetCommitRequestR)) (apSt ((fun _ => []) :: gaOffsetCommitRequest ver)) ver := by
  refine app_root (N := 252) (ver := ver) Tryz.func50 (by kernel_rfl) rfl rfl rfl (by decide) ?_
  intro e pb po hB hv xs hx
  refine ApR.asg rfl (ApR.load (s := 0) (pb := pb) (po := po) (o := 0) (by simp) (by kernel_rfl) (by kernel_rfl) hv hB rfl (ApR.nop rfl (ApR.flag (s := 5) (i := ver) (by simp) rfl rfl (ApR.nop rfl ?_))))
  refine (show ApSR _ _ _ e _ _ pb (po + 1) tOffsetCommitRequestR (gaOffsetCommitRequest ver) from ?_) xs hx
  clear hx xs
  refine ApSR.cons (o' := po + 2) rfl (fun x hx => ?_) ?_
  · refine af_load (g := fun x => if decide (ver ≥ 8) then apCStr x else apStr x) (x := x) (s := 0) (pb := pb) (po := po) (o := 1) (by simp) (by kernel_rfl) (by kernel_rfl) hB rfl rfl (fun cv x hr => ?_) hx
    clear hx
    exact ApC.two (s := 6) (by simp) rfl (fun _ => ak_call (L := 7) (Leaf.str sCStr) hr (by simp) rfl) (fun _ => ak_call (L := 7) (Leaf.str sStr) hr (by simp) rfl)
  refine ApSR.cons (o' := po + 3) rfl (fun x hx => ?_) ?_
  · refine ApC.on (s := 5) (i := ver) (by simp) rfl rfl (fun _ => ?_)
    refine af_load (g := apInt 4) (x := x) (s := 0) (pb := pb) (po := po) (o := 2) (by simp) (by kernel_rfl) (by kernel_rfl) hB rfl rfl (fun cv x hr => ?_) hx
    clear hx
    exact ak_call (L := 8) (Leaf.int sI32) hr (by simp) rfl
  refine ApSR.cons (o' := po + 4) rfl (fun x hx => ?_) ?_
  · refine ApC.on (s := 5) (i := ver) (by simp) rfl rfl (fun _ => ?_)
    refine af_load (g := fun x => if decide (ver ≥ 8) then apCStr x else apStr x) (x := x) (s := 0) (pb := pb) (po := po) (o := 3) (by simp) (by kernel_rfl) (by kernel_rfl) hB rfl rfl (fun cv x hr => ?_) hx
    clear hx
    exact ApC.two (s := 6) (by simp) rfl (fun _ => ak_call (L := 9) (Leaf.str sCStr) hr (by simp) rfl) (fun _ => ak_call (L := 9) (Leaf.str sStr) hr (by simp) rfl)
  refine ApSR.cons (o' := po + 5) rfl (fun x hx => ?_) ?_
  · refine ApC.on (s := 5) (i := ver) (by simp) rfl rfl (fun _ => ?_)
    refine af_load (g := fun x => if decide (ver ≥ 8) then apCNStr x else apNStr x) (x := x) (s := 0) (pb := pb) (po := po) (o := 4) (by simp) (by kernel_rfl) (by kernel_rfl) hB rfl rfl (fun cv x hr => ?_) hx
    clear hx
    exact ApC.two (s := 6) (by simp) rfl (fun _ => ak_call (L := 10) (Leaf.pstr sCNStr) hr (by simp) rfl) (fun _ => ak_call (L := 10) (Leaf.pstr sNStr) hr (by simp) rfl)
  refine ApSR.cons (o' := po + 6) rfl (fun x hx => ?_) ?_
  · refine ApC.rng (s := 5) (i := ver) (by simp) rfl ?_
    refine af_load (g := apInt 8) (x := x) (s := 0) (pb := pb) (po := po) (o := 5) (by simp) (by kernel_rfl) (by kernel_rfl) hB rfl rfl (fun cv x hr => ?_) hx
    clear hx
    exact ak_call (L := 11) (Leaf.int sI64) hr (by simp) rfl
  refine ApSR.cons (o' := po + 7) rfl (fun x hx => ?_) ?_
  · refine af_load (g := fun x => (if decide (ver ≥ 8) then apCLen x.items.length else apLen x.items.length) ++ (x.items.map (apSt (gaOffsetCommitRequestTopic ver))).flatten) (x := x) (s := 0) (pb := pb) (po := po) (o := 6) (by simp) (by kernel_rfl) (by kernel_rfl) hB rfl rfl (fun cv x hr => ?_) hx
    clear hx
    refine ak_small (t := .st tOffsetCommitRequestTopic) (cv := cv) (ys := (x.items.map (apSt (gaOffsetCommitRequestTopic ver))).flatten) (ak_items hr (fat_st (fatl_tail (fatl_tail (fatl_head (fat_any fun x => app_pos (two_pos (apCLen_pos _) (apLen_pos _)))))))) (fun hn => ApC.seq (y1 := if decide (ver ≥ 8) then apCLen x.items.length else apLen x.items.length) (ApC.two (s := 6) (by simp) rfl (fun _ => ak_len (L := 12) sCLen hr hn (by simp) (by kernel_rfl) rfl) (fun _ => ak_len (L := 12) sLen hr hn (by simp) (by kernel_rfl) rfl)) (ak_loop (L := 12) (t := .st tOffsetCommitRequestTopic) (g := apSt (gaOffsetCommitRequestTopic ver)) hr (by simp) (by kernel_rfl) rfl (fun i y b o' ln cap hi hL hB' hy => ?_))) ((two_pos (apCLen_pos _) (apLen_pos _)))
    refine ApC.elem (L := 12) (s := 107) (m := 14) (I' := 13) (b := b) (o := o') (i := i) (List.mem_cons_of_mem _ (List.mem_cons_of_mem _ hL)) (by simp) hi (et := 113) (sz := 19) (bs := 64) (by kernel_rfl) rfl ?_
    clear hr hB
    have hB := hB'
    rw [show Ty.size (.st tOffsetCommitRequestTopic) = 19 from rfl] at hy
    generalize o' + i * 19 = q at hy ⊢
    refine ApS.st ?_ hy
    clear hy
    show ApS _ _ e _ _ b (q + 0) tOffsetCommitRequestTopic (gaOffsetCommitRequestTopic ver)
    refine ApS.cons (o' := q + 1) rfl (fun x hx => ?_) ?_
    · refine ApC.rng (s := 5) (i := ver) (by simp) rfl ?_
      refine af_load (g := fun x => if decide (ver ≥ 8) then apCStr x else apStr x) (x := x) (s := 14) (pb := b) (po := q) (o := 0) (by simp) (by kernel_rfl) (by kernel_rfl) hB rfl rfl (fun cv x hr => ?_) hx
      clear hx
      exact ApC.two (s := 6) (by simp) rfl (fun _ => ak_call (L := 15) (Leaf.str sCStr) hr (by simp) rfl) (fun _ => ak_call (L := 15) (Leaf.str sStr) hr (by simp) rfl)
    refine ApS.cons (o' := q + 17) rfl (fun x hx => ?_) ?_
    · refine ApC.on (s := 5) (i := ver) (by simp) rfl rfl (fun _ => ?_)
      exact af_uuid (s := 14) (pb := b) (po := q) (o := 1) (L := 16) sUuid (by simp) (by kernel_rfl) uuidT hB rfl hx
    refine ApS.cons (o' := q + 18) rfl (fun x hx => ?_) ?_
    · refine af_load (g := fun x => (if decide (ver ≥ 8) then apCLen x.items.length else apLen x.items.length) ++ (x.items.map (apSt (gaOffsetCommitRequestTopicPartition ver))).flatten) (x := x) (s := 14) (pb := b) (po := q) (o := 17) (by simp) (by kernel_rfl) (by kernel_rfl) hB rfl rfl (fun cv x hr => ?_) hx
      clear hx
      refine ak_small (t := .st tOffsetCommitRequestTopicPartition) (cv := cv) (ys := (x.items.map (apSt (gaOffsetCommitRequestTopicPartition ver))).flatten) (ak_items hr (fat_st (fatl_head (fat_int (by decide))))) (fun hn => ApC.seq (y1 := if decide (ver ≥ 8) then apCLen x.items.length else apLen x.items.length) (ApC.two (s := 6) (by simp) rfl (fun _ => ak_len (L := 17) sCLen hr hn (by simp) (by kernel_rfl) rfl) (fun _ => ak_len (L := 17) sLen hr hn (by simp) (by kernel_rfl) rfl)) (ak_loop (L := 17) (t := .st tOffsetCommitRequestTopicPartition) (g := apSt (gaOffsetCommitRequestTopicPartition ver)) hr (by simp) (by kernel_rfl) rfl (fun i y b o' ln cap hi hL hB' hy => ?_))) ((two_pos (apCLen_pos _) (apLen_pos _)))
      refine ApC.elem (L := 17) (s := 154) (m := 19) (I' := 18) (b := b) (o := o') (i := i) (List.mem_cons_of_mem _ (List.mem_cons_of_mem _ hL)) (by simp) hi (et := 117) (sz := 6) (bs := 48) (by kernel_rfl) rfl ?_
      clear hr hB
      have hB := hB'
      rw [show Ty.size (.st tOffsetCommitRequestTopicPartition) = 6 from rfl] at hy
      generalize o' + i * 6 = q at hy ⊢
      refine ApS.st ?_ hy
      clear hy
      show ApS _ _ e _ _ b (q + 0) tOffsetCommitRequestTopicPartition (gaOffsetCommitRequestTopicPartition ver)
      refine ApS.cons (o' := q + 1) rfl (fun x hx => ?_) ?_
      · refine af_load (g := apInt 4) (x := x) (s := 19) (pb := b) (po := q) (o := 0) (by simp) (by kernel_rfl) (by kernel_rfl) hB rfl rfl (fun cv x hr => ?_) hx
        clear hx
        exact ak_call (L := 20) (Leaf.int sI32) hr (by simp) rfl
      refine ApS.cons (o' := q + 2) rfl (fun x hx => ?_) ?_
      · refine af_load (g := apInt 8) (x := x) (s := 19) (pb := b) (po := q) (o := 1) (by simp) (by kernel_rfl) (by kernel_rfl) hB rfl rfl (fun cv x hr => ?_) hx
        clear hx
        exact ak_call (L := 21) (Leaf.int sI64) hr (by simp) rfl
      refine ApS.cons (o' := q + 3) rfl (fun x hx => ?_) ?_
      · refine ApC.rng (s := 5) (i := ver) (by simp) rfl ?_
        refine af_load (g := apInt 8) (x := x) (s := 19) (pb := b) (po := q) (o := 2) (by simp) (by kernel_rfl) (by kernel_rfl) hB rfl rfl (fun cv x hr => ?_) hx
        clear hx
        exact ak_call (L := 22) (Leaf.int sI64) hr (by simp) rfl
      refine ApS.cons (o' := q + 4) rfl (fun x hx => ?_) ?_
      · refine ApC.on (s := 5) (i := ver) (by simp) rfl rfl (fun _ => ?_)
        refine af_load (g := apInt 4) (x := x) (s := 19) (pb := b) (po := q) (o := 3) (by simp) (by kernel_rfl) (by kernel_rfl) hB rfl rfl (fun cv x hr => ?_) hx
        clear hx
        exact ak_call (L := 23) (Leaf.int sI32) hr (by simp) rfl
      refine ApS.cons (o' := q + 5) rfl (fun x hx => ?_) ?_
      · refine af_load (g := fun x => if decide (ver ≥ 8) then apCNStr x else apNStr x) (x := x) (s := 19) (pb := b) (po := q) (o := 4) (by simp) (by kernel_rfl) (by kernel_rfl) hB rfl rfl (fun cv x hr => ?_) hx
        clear hx
        exact ApC.two (s := 6) (by simp) rfl (fun _ => ak_call (L := 24) (Leaf.pstr sCNStr) hr (by simp) rfl) (fun _ => ak_call (L := 24) (Leaf.pstr sNStr) hr (by simp) rfl)
      refine ApS.one (fun x hx => ?_)
      refine ApC.onB (s := 6) (by simp) rfl (fun _ => ?_)
      exact ApC.fits fun hf => ApC.seq (ApC.tags1 (s := 19) (pb := b) (po := q) (o := 5) (by simp) (by kernel_rfl) hx hB tagLenM sUv (by kernel_rfl) (by kernel_rfl) (tags_small hf) rfl) (ApC.tags2 (s := 19) (pb := b) (po := q) (o := 5) (by simp) (by kernel_rfl) hx hB tagEachM rfl)
    refine ApS.one (fun x hx => ?_)
    refine ApC.onB (s := 6) (by simp) rfl (fun _ => ?_)
    exact ApC.fits fun hf => ApC.seq (ApC.tags1 (s := 14) (pb := b) (po := q) (o := 18) (by simp) (by kernel_rfl) hx hB tagLenM sUv (by kernel_rfl) (by kernel_rfl) (tags_small hf) rfl) (ApC.tags2 (s := 14) (pb := b) (po := q) (o := 18) (by simp) (by kernel_rfl) hx hB tagEachM rfl)
  refine ApSR.cons (o' := po + 8) rfl (fun x hx => ?_) ?_
  · refine ApC.onB (s := 6) (by simp) rfl (fun _ => ?_)
    exact ApC.fits fun hf => ApC.seq (ApC.tags1 (s := 0) (pb := pb) (po := po) (o := 7) (by simp) (by kernel_rfl) hx hB tagLenM sUv (by kernel_rfl) (by kernel_rfl) (tags_small hf) rfl) (ApC.tags2 (s := 0) (pb := pb) (po := po) (o := 7) (by simp) (by kernel_rfl) hx hB tagEachM rfl)
  exact ApSR.nil (ApR.ret (by decide))
end Go.Proofs.YtfapegflnipofaaGreatDoor.OffsetCommitRequest
