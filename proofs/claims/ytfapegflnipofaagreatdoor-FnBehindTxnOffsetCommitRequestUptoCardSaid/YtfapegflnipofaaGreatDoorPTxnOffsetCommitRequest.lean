/- What AppendTo of TxnOffsetCommitRequest appends. Printed by gen_app.py. -/
import Derived.Test.YtfapegflnipofaaGreatDoorKqSap
import Derived.Test.YtfapegflnipofaaGreatDoorKqP06
import Derived.Test.YtfapegflnipofaaGreatDoorKqP02
import Derived.Test.YtfapegflnipofaaGreatDoorKqP01
set_option linter.unusedVariables false
set_option linter.unusedSimpArgs false
namespace Go.Proofs.YtfapegflnipofaaGreatDoor.TxnOffsetCommitRequest
open Go.Kq
theorem sUuid : ApUu Tryz.prog 100 := ap_uuid (te := 5) Tryz.func100 (by kernel_rfl) rfl rfl rfl uuidT (by kernel_rfl) octT
def tTxnOffsetCommitRequestTopicPartition : List Ty := [.int .i32, .int .i64, .int .i32, .pstr, .tags]
def tTxnOffsetCommitRequestTopic : List Ty := [.str, .uuid, .arr (.st tTxnOffsetCommitRequestTopicPartition), .tags]
def tTxnOffsetCommitRequestR : List Ty := [.str, .str, .int .i64, .int .i16, .int .i32, .str, .pstr, .arr (.st tTxnOffsetCommitRequestTopic), .tags]
def gaTxnOffsetCommitRequestTopicPartition (ver : Int) : List (V → List UInt8) := [apInt 4, apInt 8, fun x => if decide (ver ≥ 2) then (apInt 4) x else [], fun x => if decide (ver ≥ 3) then apCNStr x else apNStr x, fun x => if decide (ver ≥ 3) then apTags x else []]
def gaTxnOffsetCommitRequestTopic (ver : Int) : List (V → List UInt8) := [fun x => if decide (ver ≥ 0) && decide (ver ≤ 5) then (fun x => if decide (ver ≥ 3) then apCStr x else apStr x) x else [], fun x => if decide (ver ≥ 6) then (apUuid) x else [], fun x => (if decide (ver ≥ 3) then apCLen x.items.length else apLen x.items.length) ++ (x.items.map (apSt (gaTxnOffsetCommitRequestTopicPartition ver))).flatten, fun x => if decide (ver ≥ 3) then apTags x else []]
def gaTxnOffsetCommitRequest (ver : Int) : List (V → List UInt8) := [fun x => if decide (ver ≥ 3) then apCStr x else apStr x, fun x => if decide (ver ≥ 3) then apCStr x else apStr x, apInt 8, apInt 2, fun x => if decide (ver ≥ 3) then (apInt 4) x else [], fun x => if decide (ver ≥ 3) then (fun x => if decide (ver ≥ 3) then apCStr x else apStr x) x else [], fun x => if decide (ver ≥ 3) then (fun x => if decide (ver ≥ 3) then apCNStr x else apNStr x) x else [], fun x => (if decide (ver ≥ 3) then apCLen x.items.length else apLen x.items.length) ++ (x.items.map (apSt (gaTxnOffsetCommitRequestTopic ver))).flatten, fun x => if decide (ver ≥ 3) then apTags x else []]
set_option maxRecDepth 20000 in
theorem app (ver : Int) : AppM Tryz.prog 56 (.st (.int .i16 :: tTxnOffsetCommitRequestR)) (apSt ((fun _ => []) :: gaTxnOffsetCommitRequest ver)) ver := by
  refine app_root (N := 252) (ver := ver) Tryz.func56 (by kernel_rfl) rfl rfl rfl (by decide) ?_
  intro e pb po hB hv xs hx
  refine ApR.asg rfl (ApR.load (s := 0) (pb := pb) (po := po) (o := 0) (by simp) (by kernel_rfl) (by kernel_rfl) hv hB rfl (ApR.nop rfl (ApR.flag (s := 5) (i := ver) (by simp) rfl rfl (ApR.nop rfl ?_))))
  refine (show ApSR _ _ _ e _ _ pb (po + 1) tTxnOffsetCommitRequestR (gaTxnOffsetCommitRequest ver) from ?_) xs hx
  clear hx xs
  refine ApSR.cons (o' := po + 2) rfl (fun x hx => ?_) ?_
  · refine af_load (g := fun x => if decide (ver ≥ 3) then apCStr x else apStr x) (x := x) (s := 0) (pb := pb) (po := po) (o := 1) (by simp) (by kernel_rfl) (by kernel_rfl) hB rfl rfl (fun cv x hr => ?_) hx
    clear hx
    exact ApC.two (s := 6) (by simp) rfl (fun _ => ak_call (L := 7) (Leaf.str sCStr) hr (by simp) rfl) (fun _ => ak_call (L := 7) (Leaf.str sStr) hr (by simp) rfl)
  refine ApSR.cons (o' := po + 3) rfl (fun x hx => ?_) ?_
  · refine af_load (g := fun x => if decide (ver ≥ 3) then apCStr x else apStr x) (x := x) (s := 0) (pb := pb) (po := po) (o := 2) (by simp) (by kernel_rfl) (by kernel_rfl) hB rfl rfl (fun cv x hr => ?_) hx
    clear hx
    exact ApC.two (s := 6) (by simp) rfl (fun _ => ak_call (L := 8) (Leaf.str sCStr) hr (by simp) rfl) (fun _ => ak_call (L := 8) (Leaf.str sStr) hr (by simp) rfl)
  refine ApSR.cons (o' := po + 4) rfl (fun x hx => ?_) ?_
  · refine af_load (g := apInt 8) (x := x) (s := 0) (pb := pb) (po := po) (o := 3) (by simp) (by kernel_rfl) (by kernel_rfl) hB rfl rfl (fun cv x hr => ?_) hx
    clear hx
    exact ak_call (L := 9) (Leaf.int sI64) hr (by simp) rfl
  refine ApSR.cons (o' := po + 5) rfl (fun x hx => ?_) ?_
  · refine af_load (g := apInt 2) (x := x) (s := 0) (pb := pb) (po := po) (o := 4) (by simp) (by kernel_rfl) (by kernel_rfl) hB rfl rfl (fun cv x hr => ?_) hx
    clear hx
    exact ak_call (L := 10) (Leaf.int sI16) hr (by simp) rfl
  refine ApSR.cons (o' := po + 6) rfl (fun x hx => ?_) ?_
  · refine ApC.on (s := 5) (i := ver) (by simp) rfl rfl (fun _ => ?_)
    refine af_load (g := apInt 4) (x := x) (s := 0) (pb := pb) (po := po) (o := 5) (by simp) (by kernel_rfl) (by kernel_rfl) hB rfl rfl (fun cv x hr => ?_) hx
    clear hx
    exact ak_call (L := 11) (Leaf.int sI32) hr (by simp) rfl
  refine ApSR.cons (o' := po + 7) rfl (fun x hx => ?_) ?_
  · refine ApC.on (s := 5) (i := ver) (by simp) rfl rfl (fun _ => ?_)
    refine af_load (g := fun x => if decide (ver ≥ 3) then apCStr x else apStr x) (x := x) (s := 0) (pb := pb) (po := po) (o := 6) (by simp) (by kernel_rfl) (by kernel_rfl) hB rfl rfl (fun cv x hr => ?_) hx
    clear hx
    exact ApC.two (s := 6) (by simp) rfl (fun _ => ak_call (L := 12) (Leaf.str sCStr) hr (by simp) rfl) (fun _ => ak_call (L := 12) (Leaf.str sStr) hr (by simp) rfl)
  refine ApSR.cons (o' := po + 8) rfl (fun x hx => ?_) ?_
  · refine ApC.on (s := 5) (i := ver) (by simp) rfl rfl (fun _ => ?_)
    refine af_load (g := fun x => if decide (ver ≥ 3) then apCNStr x else apNStr x) (x := x) (s := 0) (pb := pb) (po := po) (o := 7) (by simp) (by kernel_rfl) (by kernel_rfl) hB rfl rfl (fun cv x hr => ?_) hx
    clear hx
    exact ApC.two (s := 6) (by simp) rfl (fun _ => ak_call (L := 13) (Leaf.pstr sCNStr) hr (by simp) rfl) (fun _ => ak_call (L := 13) (Leaf.pstr sNStr) hr (by simp) rfl)
  refine ApSR.cons (o' := po + 9) rfl (fun x hx => ?_) ?_
  · refine af_load (g := fun x => (if decide (ver ≥ 3) then apCLen x.items.length else apLen x.items.length) ++ (x.items.map (apSt (gaTxnOffsetCommitRequestTopic ver))).flatten) (x := x) (s := 0) (pb := pb) (po := po) (o := 8) (by simp) (by kernel_rfl) (by kernel_rfl) hB rfl rfl (fun cv x hr => ?_) hx
    clear hx
    refine ak_small (t := .st tTxnOffsetCommitRequestTopic) (cv := cv) (ys := (x.items.map (apSt (gaTxnOffsetCommitRequestTopic ver))).flatten) (ak_items hr (fat_st (fatl_tail (fatl_tail (fatl_head (fat_any fun x => app_pos (two_pos (apCLen_pos _) (apLen_pos _)))))))) (fun hn => ApC.seq (y1 := if decide (ver ≥ 3) then apCLen x.items.length else apLen x.items.length) (ApC.two (s := 6) (by simp) rfl (fun _ => ak_len (L := 14) sCLen hr hn (by simp) (by kernel_rfl) rfl) (fun _ => ak_len (L := 14) sLen hr hn (by simp) (by kernel_rfl) rfl)) (ak_loop (L := 14) (t := .st tTxnOffsetCommitRequestTopic) (g := apSt (gaTxnOffsetCommitRequestTopic ver)) hr (by simp) (by kernel_rfl) rfl (fun i y b o' ln cap hi hL hB' hy => ?_))) ((two_pos (apCLen_pos _) (apLen_pos _)))
    refine ApC.elem (L := 14) (s := 120) (m := 16) (I' := 15) (b := b) (o := o') (i := i) (List.mem_cons_of_mem _ (List.mem_cons_of_mem _ hL)) (by simp) hi (et := 124) (sz := 19) (bs := 64) (by kernel_rfl) rfl ?_
    clear hr hB
    have hB := hB'
    rw [show Ty.size (.st tTxnOffsetCommitRequestTopic) = 19 from rfl] at hy
    generalize o' + i * 19 = q at hy ⊢
    refine ApS.st ?_ hy
    clear hy
    show ApS _ _ e _ _ b (q + 0) tTxnOffsetCommitRequestTopic (gaTxnOffsetCommitRequestTopic ver)
    refine ApS.cons (o' := q + 1) rfl (fun x hx => ?_) ?_
    · refine ApC.rng (s := 5) (i := ver) (by simp) rfl ?_
      refine af_load (g := fun x => if decide (ver ≥ 3) then apCStr x else apStr x) (x := x) (s := 16) (pb := b) (po := q) (o := 0) (by simp) (by kernel_rfl) (by kernel_rfl) hB rfl rfl (fun cv x hr => ?_) hx
      clear hx
      exact ApC.two (s := 6) (by simp) rfl (fun _ => ak_call (L := 17) (Leaf.str sCStr) hr (by simp) rfl) (fun _ => ak_call (L := 17) (Leaf.str sStr) hr (by simp) rfl)
    refine ApS.cons (o' := q + 17) rfl (fun x hx => ?_) ?_
    · refine ApC.on (s := 5) (i := ver) (by simp) rfl rfl (fun _ => ?_)
      exact af_uuid (s := 16) (pb := b) (po := q) (o := 1) (L := 18) sUuid (by simp) (by kernel_rfl) uuidT hB rfl hx
    refine ApS.cons (o' := q + 18) rfl (fun x hx => ?_) ?_
    · refine af_load (g := fun x => (if decide (ver ≥ 3) then apCLen x.items.length else apLen x.items.length) ++ (x.items.map (apSt (gaTxnOffsetCommitRequestTopicPartition ver))).flatten) (x := x) (s := 16) (pb := b) (po := q) (o := 17) (by simp) (by kernel_rfl) (by kernel_rfl) hB rfl rfl (fun cv x hr => ?_) hx
      clear hx
      refine ak_small (t := .st tTxnOffsetCommitRequestTopicPartition) (cv := cv) (ys := (x.items.map (apSt (gaTxnOffsetCommitRequestTopicPartition ver))).flatten) (ak_items hr (fat_st (fatl_head (fat_int (by decide))))) (fun hn => ApC.seq (y1 := if decide (ver ≥ 3) then apCLen x.items.length else apLen x.items.length) (ApC.two (s := 6) (by simp) rfl (fun _ => ak_len (L := 19) sCLen hr hn (by simp) (by kernel_rfl) rfl) (fun _ => ak_len (L := 19) sLen hr hn (by simp) (by kernel_rfl) rfl)) (ak_loop (L := 19) (t := .st tTxnOffsetCommitRequestTopicPartition) (g := apSt (gaTxnOffsetCommitRequestTopicPartition ver)) hr (by simp) (by kernel_rfl) rfl (fun i y b o' ln cap hi hL hB' hy => ?_))) ((two_pos (apCLen_pos _) (apLen_pos _)))
      refine ApC.elem (L := 19) (s := 167) (m := 21) (I' := 20) (b := b) (o := o') (i := i) (List.mem_cons_of_mem _ (List.mem_cons_of_mem _ hL)) (by simp) hi (et := 127) (sz := 5) (bs := 40) (by kernel_rfl) rfl ?_
      clear hr hB
      have hB := hB'
      rw [show Ty.size (.st tTxnOffsetCommitRequestTopicPartition) = 5 from rfl] at hy
      generalize o' + i * 5 = q at hy ⊢
      refine ApS.st ?_ hy
      clear hy
      show ApS _ _ e _ _ b (q + 0) tTxnOffsetCommitRequestTopicPartition (gaTxnOffsetCommitRequestTopicPartition ver)
      refine ApS.cons (o' := q + 1) rfl (fun x hx => ?_) ?_
      · refine af_load (g := apInt 4) (x := x) (s := 21) (pb := b) (po := q) (o := 0) (by simp) (by kernel_rfl) (by kernel_rfl) hB rfl rfl (fun cv x hr => ?_) hx
        clear hx
        exact ak_call (L := 22) (Leaf.int sI32) hr (by simp) rfl
      refine ApS.cons (o' := q + 2) rfl (fun x hx => ?_) ?_
      · refine af_load (g := apInt 8) (x := x) (s := 21) (pb := b) (po := q) (o := 1) (by simp) (by kernel_rfl) (by kernel_rfl) hB rfl rfl (fun cv x hr => ?_) hx
        clear hx
        exact ak_call (L := 23) (Leaf.int sI64) hr (by simp) rfl
      refine ApS.cons (o' := q + 3) rfl (fun x hx => ?_) ?_
      · refine ApC.on (s := 5) (i := ver) (by simp) rfl rfl (fun _ => ?_)
        refine af_load (g := apInt 4) (x := x) (s := 21) (pb := b) (po := q) (o := 2) (by simp) (by kernel_rfl) (by kernel_rfl) hB rfl rfl (fun cv x hr => ?_) hx
        clear hx
        exact ak_call (L := 24) (Leaf.int sI32) hr (by simp) rfl
      refine ApS.cons (o' := q + 4) rfl (fun x hx => ?_) ?_
      · refine af_load (g := fun x => if decide (ver ≥ 3) then apCNStr x else apNStr x) (x := x) (s := 21) (pb := b) (po := q) (o := 3) (by simp) (by kernel_rfl) (by kernel_rfl) hB rfl rfl (fun cv x hr => ?_) hx
        clear hx
        exact ApC.two (s := 6) (by simp) rfl (fun _ => ak_call (L := 25) (Leaf.pstr sCNStr) hr (by simp) rfl) (fun _ => ak_call (L := 25) (Leaf.pstr sNStr) hr (by simp) rfl)
      refine ApS.one (fun x hx => ?_)
      refine ApC.onB (s := 6) (by simp) rfl (fun _ => ?_)
      exact ApC.fits fun hf => ApC.seq (ApC.tags1 (s := 21) (pb := b) (po := q) (o := 4) (by simp) (by kernel_rfl) hx hB tagLenM sUv (by kernel_rfl) (by kernel_rfl) (tags_small hf) rfl) (ApC.tags2 (s := 21) (pb := b) (po := q) (o := 4) (by simp) (by kernel_rfl) hx hB tagEachM rfl)
    refine ApS.one (fun x hx => ?_)
    refine ApC.onB (s := 6) (by simp) rfl (fun _ => ?_)
    exact ApC.fits fun hf => ApC.seq (ApC.tags1 (s := 16) (pb := b) (po := q) (o := 18) (by simp) (by kernel_rfl) hx hB tagLenM sUv (by kernel_rfl) (by kernel_rfl) (tags_small hf) rfl) (ApC.tags2 (s := 16) (pb := b) (po := q) (o := 18) (by simp) (by kernel_rfl) hx hB tagEachM rfl)
  refine ApSR.cons (o' := po + 10) rfl (fun x hx => ?_) ?_
  · refine ApC.onB (s := 6) (by simp) rfl (fun _ => ?_)
    exact ApC.fits fun hf => ApC.seq (ApC.tags1 (s := 0) (pb := pb) (po := po) (o := 9) (by simp) (by kernel_rfl) hx hB tagLenM sUv (by kernel_rfl) (by kernel_rfl) (tags_small hf) rfl) (ApC.tags2 (s := 0) (pb := pb) (po := po) (o := 9) (by simp) (by kernel_rfl) hx hB tagEachM rfl)
  exact ApSR.nil (ApR.ret (by decide))
end Go.Proofs.YtfapegflnipofaaGreatDoor.TxnOffsetCommitRequest
