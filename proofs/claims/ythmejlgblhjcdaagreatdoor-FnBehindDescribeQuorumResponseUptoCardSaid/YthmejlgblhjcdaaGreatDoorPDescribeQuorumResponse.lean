/- What AppendTo of DescribeQuorumResponse appends. Printed by gen_app.py. -/
import Derived.Test.YthmejlgblhjcdaaGreatDoorKqSap
import Derived.Test.YthmejlgblhjcdaaGreatDoorKqP06
import Derived.Test.YthmejlgblhjcdaaGreatDoorKqP02
import Derived.Test.YthmejlgblhjcdaaGreatDoorKqP01
set_option linter.unusedVariables false
set_option linter.unusedSimpArgs false
namespace Go.Proofs.YthmejlgblhjcdaaGreatDoor.DescribeQuorumResponse
open Go.Kq
theorem sUuid : ApUu Tryz.prog 95 := ap_uuid (te := 5) Tryz.func95 (by kernel_rfl) rfl rfl rfl uuidT (by kernel_rfl) octT
def tQTopicPartitionReplicaState : List Ty := [.int .i32, .uuid, .int .i64, .int .i64, .int .i64, .tags]
def tQTopicPartition : List Ty := [.int .i32, .int .i16, .pstr, .int .i32, .int .i32, .int .i64, .arr (.st tQTopicPartitionReplicaState), .arr (.st tQTopicPartitionReplicaState), .tags]
def tQTopic : List Ty := [.str, .arr (.st tQTopicPartition), .tags]
def tQNodeListener : List Ty := [.str, .str, .int .u16, .tags]
def tQNode : List Ty := [.int .i32, .arr (.st tQNodeListener), .tags]
def tQR : List Ty := [.int .i16, .pstr, .arr (.st tQTopic), .arr (.st tQNode), .tags]
def gaQTopicPartitionReplicaState (ver : Int) : List (V → List UInt8) := [apInt 4, fun x => if decide (ver ≥ 2) then (apUuid) x else [], apInt 8, fun x => if decide (ver ≥ 1) then (apInt 8) x else [], fun x => if decide (ver ≥ 1) then (apInt 8) x else [], fun x => if decide (ver ≥ 0) then apTags x else []]
def gaQTopicPartition (ver : Int) : List (V → List UInt8) := [apInt 4, apInt 2, fun x => if decide (ver ≥ 2) then (fun x => if decide (ver ≥ 0) then apCNStr x else apNStr x) x else [], apInt 4, apInt 4, apInt 8, fun x => (if decide (ver ≥ 0) then apCLen x.items.length else apLen x.items.length) ++ (x.items.map (apSt (gaQTopicPartitionReplicaState ver))).flatten, fun x => (if decide (ver ≥ 0) then apCLen x.items.length else apLen x.items.length) ++ (x.items.map (apSt (gaQTopicPartitionReplicaState ver))).flatten, fun x => if decide (ver ≥ 0) then apTags x else []]
def gaQTopic (ver : Int) : List (V → List UInt8) := [fun x => if decide (ver ≥ 0) then apCStr x else apStr x, fun x => (if decide (ver ≥ 0) then apCLen x.items.length else apLen x.items.length) ++ (x.items.map (apSt (gaQTopicPartition ver))).flatten, fun x => if decide (ver ≥ 0) then apTags x else []]
def gaQNodeListener (ver : Int) : List (V → List UInt8) := [fun x => if decide (ver ≥ 0) then apCStr x else apStr x, fun x => if decide (ver ≥ 0) then apCStr x else apStr x, apInt 2, fun x => if decide (ver ≥ 0) then apTags x else []]
def gaQNode (ver : Int) : List (V → List UInt8) := [apInt 4, fun x => (if decide (ver ≥ 0) then apCLen x.items.length else apLen x.items.length) ++ (x.items.map (apSt (gaQNodeListener ver))).flatten, fun x => if decide (ver ≥ 0) then apTags x else []]
def gaQ (ver : Int) : List (V → List UInt8) := [apInt 2, fun x => if decide (ver ≥ 2) then (fun x => if decide (ver ≥ 0) then apCNStr x else apNStr x) x else [], fun x => (if decide (ver ≥ 0) then apCLen x.items.length else apLen x.items.length) ++ (x.items.map (apSt (gaQTopic ver))).flatten, fun x => if decide (ver ≥ 2) then (fun x => (if decide (ver ≥ 0) then apCLen x.items.length else apLen x.items.length) ++ (x.items.map (apSt (gaQNode ver))).flatten) x else [], fun x => if decide (ver ≥ 0) then apTags x else []]
set_option maxRecDepth 20000 in
theorem app (ver : Int) : AppM Tryz.prog 44 (.st (.int .i16 :: tQR)) (apSt ((fun _ => []) :: gaQ ver)) ver := by
  refine app_root (N := 486) (ver := ver) Tryz.func44 (by kernel_rfl) rfl rfl rfl (by decide) ?_
  intro e pb po hB hv xs hx
  refine ApR.asg rfl (ApR.load (s := 0) (pb := pb) (po := po) (o := 0) (by simp) (by kernel_rfl) (by kernel_rfl) hv hB rfl (ApR.nop rfl (ApR.flag (s := 5) (i := ver) (by simp) rfl rfl (ApR.nop rfl ?_))))
  refine (show ApSR _ _ _ e _ _ pb (po + 1) tQR (gaQ ver) from ?_) xs hx
  clear hx xs
  refine ApSR.cons (o' := po + 2) rfl (fun x hx => ?_) ?_
  · refine af_load (g := apInt 2) (x := x) (s := 0) (pb := pb) (po := po) (o := 1) (by simp) (by kernel_rfl) (by kernel_rfl) hB rfl rfl (fun cv x hr => ?_) hx
    clear hx
    exact ak_call (L := 7) (Leaf.int sI16) hr (by simp) rfl
  refine ApSR.cons (o' := po + 3) rfl (fun x hx => ?_) ?_
  · refine ApC.on (s := 5) (i := ver) (by simp) rfl rfl (fun _ => ?_)
    refine af_load (g := fun x => if decide (ver ≥ 0) then apCNStr x else apNStr x) (x := x) (s := 0) (pb := pb) (po := po) (o := 2) (by simp) (by kernel_rfl) (by kernel_rfl) hB rfl rfl (fun cv x hr => ?_) hx
    clear hx
    exact ApC.two (s := 6) (by simp) rfl (fun _ => ak_call (L := 8) (Leaf.pstr sCNStr) hr (by simp) rfl) (fun _ => ak_call (L := 8) (Leaf.pstr sNStr) hr (by simp) rfl)
  refine ApSR.cons (o' := po + 4) rfl (fun x hx => ?_) ?_
  · refine af_load (g := fun x => (if decide (ver ≥ 0) then apCLen x.items.length else apLen x.items.length) ++ (x.items.map (apSt (gaQTopic ver))).flatten) (x := x) (s := 0) (pb := pb) (po := po) (o := 3) (by simp) (by kernel_rfl) (by kernel_rfl) hB rfl rfl (fun cv x hr => ?_) hx
    clear hx
    refine ak_small (t := .st tQTopic) (cv := cv) (ys := (x.items.map (apSt (gaQTopic ver))).flatten) (ak_items hr (fat_st (fatl_head (fat_two (fat_any apCStr_pos) (fat_any apStr_pos))))) (fun hn => ApC.seq (y1 := if decide (ver ≥ 0) then apCLen x.items.length else apLen x.items.length) (ApC.two (s := 6) (by simp) rfl (fun _ => ak_len (L := 9) sCLen hr hn (by simp) (by kernel_rfl) rfl) (fun _ => ak_len (L := 9) sLen hr hn (by simp) (by kernel_rfl) rfl)) (ak_loop (L := 9) (t := .st tQTopic) (g := apSt (gaQTopic ver)) hr (by simp) (by kernel_rfl) rfl (fun i y b o' ln cap hi hL hB' hy => ?_))) ((two_pos (apCLen_pos _) (apLen_pos _)))
    refine ApC.elem (L := 9) (s := 91) (m := 11) (I' := 10) (b := b) (o := o') (i := i) (List.mem_cons_of_mem _ (List.mem_cons_of_mem _ hL)) (by simp) hi (et := 114) (sz := 3) (bs := 48) (by kernel_rfl) rfl ?_
    clear hr hB
    have hB := hB'
    rw [show Ty.size (.st tQTopic) = 3 from rfl] at hy
    generalize o' + i * 3 = q at hy ⊢
    refine ApS.st ?_ hy
    clear hy
    show ApS _ _ e _ _ b (q + 0) tQTopic (gaQTopic ver)
    refine ApS.cons (o' := q + 1) rfl (fun x hx => ?_) ?_
    · refine af_load (g := fun x => if decide (ver ≥ 0) then apCStr x else apStr x) (x := x) (s := 11) (pb := b) (po := q) (o := 0) (by simp) (by kernel_rfl) (by kernel_rfl) hB rfl rfl (fun cv x hr => ?_) hx
      clear hx
      exact ApC.two (s := 6) (by simp) rfl (fun _ => ak_call (L := 12) (Leaf.str sCStr) hr (by simp) rfl) (fun _ => ak_call (L := 12) (Leaf.str sStr) hr (by simp) rfl)
    refine ApS.cons (o' := q + 2) rfl (fun x hx => ?_) ?_
    · refine af_load (g := fun x => (if decide (ver ≥ 0) then apCLen x.items.length else apLen x.items.length) ++ (x.items.map (apSt (gaQTopicPartition ver))).flatten) (x := x) (s := 11) (pb := b) (po := q) (o := 1) (by simp) (by kernel_rfl) (by kernel_rfl) hB rfl rfl (fun cv x hr => ?_) hx
      clear hx
      refine ak_small (t := .st tQTopicPartition) (cv := cv) (ys := (x.items.map (apSt (gaQTopicPartition ver))).flatten) (ak_items hr (fat_st (fatl_head (fat_int (by decide))))) (fun hn => ApC.seq (y1 := if decide (ver ≥ 0) then apCLen x.items.length else apLen x.items.length) (ApC.two (s := 6) (by simp) rfl (fun _ => ak_len (L := 13) sCLen hr hn (by simp) (by kernel_rfl) rfl) (fun _ => ak_len (L := 13) sLen hr hn (by simp) (by kernel_rfl) rfl)) (ak_loop (L := 13) (t := .st tQTopicPartition) (g := apSt (gaQTopicPartition ver)) hr (by simp) (by kernel_rfl) rfl (fun i y b o' ln cap hi hL hB' hy => ?_))) ((two_pos (apCLen_pos _) (apLen_pos _)))
      refine ApC.elem (L := 13) (s := 123) (m := 15) (I' := 14) (b := b) (o := o') (i := i) (List.mem_cons_of_mem _ (List.mem_cons_of_mem _ hL)) (by simp) hi (et := 118) (sz := 9) (bs := 88) (by kernel_rfl) rfl ?_
      clear hr hB
      have hB := hB'
      rw [show Ty.size (.st tQTopicPartition) = 9 from rfl] at hy
      generalize o' + i * 9 = q at hy ⊢
      refine ApS.st ?_ hy
      clear hy
      show ApS _ _ e _ _ b (q + 0) tQTopicPartition (gaQTopicPartition ver)
      refine ApS.cons (o' := q + 1) rfl (fun x hx => ?_) ?_
      · refine af_load (g := apInt 4) (x := x) (s := 15) (pb := b) (po := q) (o := 0) (by simp) (by kernel_rfl) (by kernel_rfl) hB rfl rfl (fun cv x hr => ?_) hx
        clear hx
        exact ak_call (L := 16) (Leaf.int sI32) hr (by simp) rfl
      refine ApS.cons (o' := q + 2) rfl (fun x hx => ?_) ?_
      · refine af_load (g := apInt 2) (x := x) (s := 15) (pb := b) (po := q) (o := 1) (by simp) (by kernel_rfl) (by kernel_rfl) hB rfl rfl (fun cv x hr => ?_) hx
        clear hx
        exact ak_call (L := 17) (Leaf.int sI16) hr (by simp) rfl
      refine ApS.cons (o' := q + 3) rfl (fun x hx => ?_) ?_
      · refine ApC.on (s := 5) (i := ver) (by simp) rfl rfl (fun _ => ?_)
        refine af_load (g := fun x => if decide (ver ≥ 0) then apCNStr x else apNStr x) (x := x) (s := 15) (pb := b) (po := q) (o := 2) (by simp) (by kernel_rfl) (by kernel_rfl) hB rfl rfl (fun cv x hr => ?_) hx
        clear hx
        exact ApC.two (s := 6) (by simp) rfl (fun _ => ak_call (L := 18) (Leaf.pstr sCNStr) hr (by simp) rfl) (fun _ => ak_call (L := 18) (Leaf.pstr sNStr) hr (by simp) rfl)
      refine ApS.cons (o' := q + 4) rfl (fun x hx => ?_) ?_
      · refine af_load (g := apInt 4) (x := x) (s := 15) (pb := b) (po := q) (o := 3) (by simp) (by kernel_rfl) (by kernel_rfl) hB rfl rfl (fun cv x hr => ?_) hx
        clear hx
        exact ak_call (L := 19) (Leaf.int sI32) hr (by simp) rfl
      refine ApS.cons (o' := q + 5) rfl (fun x hx => ?_) ?_
      · refine af_load (g := apInt 4) (x := x) (s := 15) (pb := b) (po := q) (o := 4) (by simp) (by kernel_rfl) (by kernel_rfl) hB rfl rfl (fun cv x hr => ?_) hx
        clear hx
        exact ak_call (L := 20) (Leaf.int sI32) hr (by simp) rfl
      refine ApS.cons (o' := q + 6) rfl (fun x hx => ?_) ?_
      · refine af_load (g := apInt 8) (x := x) (s := 15) (pb := b) (po := q) (o := 5) (by simp) (by kernel_rfl) (by kernel_rfl) hB rfl rfl (fun cv x hr => ?_) hx
        clear hx
        exact ak_call (L := 21) (Leaf.int sI64) hr (by simp) rfl
      refine ApS.cons (o' := q + 7) rfl (fun x hx => ?_) ?_
      · refine af_load (g := fun x => (if decide (ver ≥ 0) then apCLen x.items.length else apLen x.items.length) ++ (x.items.map (apSt (gaQTopicPartitionReplicaState ver))).flatten) (x := x) (s := 15) (pb := b) (po := q) (o := 6) (by simp) (by kernel_rfl) (by kernel_rfl) hB rfl rfl (fun cv x hr => ?_) hx
        clear hx
        refine ak_small (t := .st tQTopicPartitionReplicaState) (cv := cv) (ys := (x.items.map (apSt (gaQTopicPartitionReplicaState ver))).flatten) (ak_items hr (fat_st (fatl_head (fat_int (by decide))))) (fun hn => ApC.seq (y1 := if decide (ver ≥ 0) then apCLen x.items.length else apLen x.items.length) (ApC.two (s := 6) (by simp) rfl (fun _ => ak_len (L := 22) sCLen hr hn (by simp) (by kernel_rfl) rfl) (fun _ => ak_len (L := 22) sLen hr hn (by simp) (by kernel_rfl) rfl)) (ak_loop (L := 22) (t := .st tQTopicPartitionReplicaState) (g := apSt (gaQTopicPartitionReplicaState ver)) hr (by simp) (by kernel_rfl) rfl (fun i y b o' ln cap hi hL hB' hy => ?_))) ((two_pos (apCLen_pos _) (apLen_pos _)))
        refine ApC.elem (L := 22) (s := 192) (m := 24) (I' := 23) (b := b) (o := o') (i := i) (List.mem_cons_of_mem _ (List.mem_cons_of_mem _ hL)) (by simp) hi (et := 124) (sz := 21) (bs := 56) (by kernel_rfl) rfl ?_
        clear hr hB
        have hB := hB'
        rw [show Ty.size (.st tQTopicPartitionReplicaState) = 21 from rfl] at hy
        generalize o' + i * 21 = q at hy ⊢
        refine ApS.st ?_ hy
        clear hy
        show ApS _ _ e _ _ b (q + 0) tQTopicPartitionReplicaState (gaQTopicPartitionReplicaState ver)
        refine ApS.cons (o' := q + 1) rfl (fun x hx => ?_) ?_
        · refine af_load (g := apInt 4) (x := x) (s := 24) (pb := b) (po := q) (o := 0) (by simp) (by kernel_rfl) (by kernel_rfl) hB rfl rfl (fun cv x hr => ?_) hx
          clear hx
          exact ak_call (L := 25) (Leaf.int sI32) hr (by simp) rfl
        refine ApS.cons (o' := q + 17) rfl (fun x hx => ?_) ?_
        · refine ApC.on (s := 5) (i := ver) (by simp) rfl rfl (fun _ => ?_)
          exact af_uuid (s := 24) (pb := b) (po := q) (o := 1) (L := 26) sUuid (by simp) (by kernel_rfl) uuidT hB rfl hx
        refine ApS.cons (o' := q + 18) rfl (fun x hx => ?_) ?_
        · refine af_load (g := apInt 8) (x := x) (s := 24) (pb := b) (po := q) (o := 17) (by simp) (by kernel_rfl) (by kernel_rfl) hB rfl rfl (fun cv x hr => ?_) hx
          clear hx
          exact ak_call (L := 27) (Leaf.int sI64) hr (by simp) rfl
        refine ApS.cons (o' := q + 19) rfl (fun x hx => ?_) ?_
        · refine ApC.on (s := 5) (i := ver) (by simp) rfl rfl (fun _ => ?_)
          refine af_load (g := apInt 8) (x := x) (s := 24) (pb := b) (po := q) (o := 18) (by simp) (by kernel_rfl) (by kernel_rfl) hB rfl rfl (fun cv x hr => ?_) hx
          clear hx
          exact ak_call (L := 28) (Leaf.int sI64) hr (by simp) rfl
        refine ApS.cons (o' := q + 20) rfl (fun x hx => ?_) ?_
        · refine ApC.on (s := 5) (i := ver) (by simp) rfl rfl (fun _ => ?_)
          refine af_load (g := apInt 8) (x := x) (s := 24) (pb := b) (po := q) (o := 19) (by simp) (by kernel_rfl) (by kernel_rfl) hB rfl rfl (fun cv x hr => ?_) hx
          clear hx
          exact ak_call (L := 29) (Leaf.int sI64) hr (by simp) rfl
        refine ApS.one (fun x hx => ?_)
        refine ApC.onB (s := 6) (by simp) rfl (fun _ => ?_)
        exact ApC.fits fun hf => ApC.seq (ApC.tags1 (s := 24) (pb := b) (po := q) (o := 20) (by simp) (by kernel_rfl) hx hB tagLenM sUv (by kernel_rfl) (by kernel_rfl) (tags_small hf) rfl) (ApC.tags2 (s := 24) (pb := b) (po := q) (o := 20) (by simp) (by kernel_rfl) hx hB tagEachM rfl)
      refine ApS.cons (o' := q + 8) rfl (fun x hx => ?_) ?_
      · refine af_load (g := fun x => (if decide (ver ≥ 0) then apCLen x.items.length else apLen x.items.length) ++ (x.items.map (apSt (gaQTopicPartitionReplicaState ver))).flatten) (x := x) (s := 15) (pb := b) (po := q) (o := 7) (by simp) (by kernel_rfl) (by kernel_rfl) hB rfl rfl (fun cv x hr => ?_) hx
        clear hx
        refine ak_small (t := .st tQTopicPartitionReplicaState) (cv := cv) (ys := (x.items.map (apSt (gaQTopicPartitionReplicaState ver))).flatten) (ak_items hr (fat_st (fatl_head (fat_int (by decide))))) (fun hn => ApC.seq (y1 := if decide (ver ≥ 0) then apCLen x.items.length else apLen x.items.length) (ApC.two (s := 6) (by simp) rfl (fun _ => ak_len (L := 30) sCLen hr hn (by simp) (by kernel_rfl) rfl) (fun _ => ak_len (L := 30) sLen hr hn (by simp) (by kernel_rfl) rfl)) (ak_loop (L := 30) (t := .st tQTopicPartitionReplicaState) (g := apSt (gaQTopicPartitionReplicaState ver)) hr (by simp) (by kernel_rfl) rfl (fun i y b o' ln cap hi hL hB' hy => ?_))) ((two_pos (apCLen_pos _) (apLen_pos _)))
        refine ApC.elem (L := 30) (s := 269) (m := 32) (I' := 31) (b := b) (o := o') (i := i) (List.mem_cons_of_mem _ (List.mem_cons_of_mem _ hL)) (by simp) hi (et := 124) (sz := 21) (bs := 56) (by kernel_rfl) rfl ?_
        clear hr hB
        have hB := hB'
        rw [show Ty.size (.st tQTopicPartitionReplicaState) = 21 from rfl] at hy
        generalize o' + i * 21 = q at hy ⊢
        refine ApS.st ?_ hy
        clear hy
        show ApS _ _ e _ _ b (q + 0) tQTopicPartitionReplicaState (gaQTopicPartitionReplicaState ver)
        refine ApS.cons (o' := q + 1) rfl (fun x hx => ?_) ?_
        · refine af_load (g := apInt 4) (x := x) (s := 32) (pb := b) (po := q) (o := 0) (by simp) (by kernel_rfl) (by kernel_rfl) hB rfl rfl (fun cv x hr => ?_) hx
          clear hx
          exact ak_call (L := 33) (Leaf.int sI32) hr (by simp) rfl
        refine ApS.cons (o' := q + 17) rfl (fun x hx => ?_) ?_
        · refine ApC.on (s := 5) (i := ver) (by simp) rfl rfl (fun _ => ?_)
          exact af_uuid (s := 32) (pb := b) (po := q) (o := 1) (L := 34) sUuid (by simp) (by kernel_rfl) uuidT hB rfl hx
        refine ApS.cons (o' := q + 18) rfl (fun x hx => ?_) ?_
        · refine af_load (g := apInt 8) (x := x) (s := 32) (pb := b) (po := q) (o := 17) (by simp) (by kernel_rfl) (by kernel_rfl) hB rfl rfl (fun cv x hr => ?_) hx
          clear hx
          exact ak_call (L := 35) (Leaf.int sI64) hr (by simp) rfl
        refine ApS.cons (o' := q + 19) rfl (fun x hx => ?_) ?_
        · refine ApC.on (s := 5) (i := ver) (by simp) rfl rfl (fun _ => ?_)
          refine af_load (g := apInt 8) (x := x) (s := 32) (pb := b) (po := q) (o := 18) (by simp) (by kernel_rfl) (by kernel_rfl) hB rfl rfl (fun cv x hr => ?_) hx
          clear hx
          exact ak_call (L := 36) (Leaf.int sI64) hr (by simp) rfl
        refine ApS.cons (o' := q + 20) rfl (fun x hx => ?_) ?_
        · refine ApC.on (s := 5) (i := ver) (by simp) rfl rfl (fun _ => ?_)
          refine af_load (g := apInt 8) (x := x) (s := 32) (pb := b) (po := q) (o := 19) (by simp) (by kernel_rfl) (by kernel_rfl) hB rfl rfl (fun cv x hr => ?_) hx
          clear hx
          exact ak_call (L := 37) (Leaf.int sI64) hr (by simp) rfl
        refine ApS.one (fun x hx => ?_)
        refine ApC.onB (s := 6) (by simp) rfl (fun _ => ?_)
        exact ApC.fits fun hf => ApC.seq (ApC.tags1 (s := 32) (pb := b) (po := q) (o := 20) (by simp) (by kernel_rfl) hx hB tagLenM sUv (by kernel_rfl) (by kernel_rfl) (tags_small hf) rfl) (ApC.tags2 (s := 32) (pb := b) (po := q) (o := 20) (by simp) (by kernel_rfl) hx hB tagEachM rfl)
      refine ApS.one (fun x hx => ?_)
      refine ApC.onB (s := 6) (by simp) rfl (fun _ => ?_)
      exact ApC.fits fun hf => ApC.seq (ApC.tags1 (s := 15) (pb := b) (po := q) (o := 8) (by simp) (by kernel_rfl) hx hB tagLenM sUv (by kernel_rfl) (by kernel_rfl) (tags_small hf) rfl) (ApC.tags2 (s := 15) (pb := b) (po := q) (o := 8) (by simp) (by kernel_rfl) hx hB tagEachM rfl)
    refine ApS.one (fun x hx => ?_)
    refine ApC.onB (s := 6) (by simp) rfl (fun _ => ?_)
    exact ApC.fits fun hf => ApC.seq (ApC.tags1 (s := 11) (pb := b) (po := q) (o := 2) (by simp) (by kernel_rfl) hx hB tagLenM sUv (by kernel_rfl) (by kernel_rfl) (tags_small hf) rfl) (ApC.tags2 (s := 11) (pb := b) (po := q) (o := 2) (by simp) (by kernel_rfl) hx hB tagEachM rfl)
  refine ApSR.cons (o' := po + 5) rfl (fun x hx => ?_) ?_
  · refine ApC.on (s := 5) (i := ver) (by simp) rfl rfl (fun _ => ?_)
    refine af_load (g := fun x => (if decide (ver ≥ 0) then apCLen x.items.length else apLen x.items.length) ++ (x.items.map (apSt (gaQNode ver))).flatten) (x := x) (s := 0) (pb := pb) (po := po) (o := 4) (by simp) (by kernel_rfl) (by kernel_rfl) hB rfl rfl (fun cv x hr => ?_) hx
    clear hx
    refine ak_small (t := .st tQNode) (cv := cv) (ys := (x.items.map (apSt (gaQNode ver))).flatten) (ak_items hr (fat_st (fatl_head (fat_int (by decide))))) (fun hn => ApC.seq (y1 := if decide (ver ≥ 0) then apCLen x.items.length else apLen x.items.length) (ApC.two (s := 6) (by simp) rfl (fun _ => ak_len (L := 38) sCLen hr hn (by simp) (by kernel_rfl) rfl) (fun _ => ak_len (L := 38) sLen hr hn (by simp) (by kernel_rfl) rfl)) (ak_loop (L := 38) (t := .st tQNode) (g := apSt (gaQNode ver)) hr (by simp) (by kernel_rfl) rfl (fun i y b o' ln cap hi hL hB' hy => ?_))) ((two_pos (apCLen_pos _) (apLen_pos _)))
    refine ApC.elem (L := 38) (s := 378) (m := 40) (I' := 39) (b := b) (o := o') (i := i) (List.mem_cons_of_mem _ (List.mem_cons_of_mem _ hL)) (by simp) hi (et := 129) (sz := 3) (bs := 40) (by kernel_rfl) rfl ?_
    clear hr hB
    have hB := hB'
    rw [show Ty.size (.st tQNode) = 3 from rfl] at hy
    generalize o' + i * 3 = q at hy ⊢
    refine ApS.st ?_ hy
    clear hy
    show ApS _ _ e _ _ b (q + 0) tQNode (gaQNode ver)
    refine ApS.cons (o' := q + 1) rfl (fun x hx => ?_) ?_
    · refine af_load (g := apInt 4) (x := x) (s := 40) (pb := b) (po := q) (o := 0) (by simp) (by kernel_rfl) (by kernel_rfl) hB rfl rfl (fun cv x hr => ?_) hx
      clear hx
      exact ak_call (L := 41) (Leaf.int sI32) hr (by simp) rfl
    refine ApS.cons (o' := q + 2) rfl (fun x hx => ?_) ?_
    · refine af_load (g := fun x => (if decide (ver ≥ 0) then apCLen x.items.length else apLen x.items.length) ++ (x.items.map (apSt (gaQNodeListener ver))).flatten) (x := x) (s := 40) (pb := b) (po := q) (o := 1) (by simp) (by kernel_rfl) (by kernel_rfl) hB rfl rfl (fun cv x hr => ?_) hx
      clear hx
      refine ak_small (t := .st tQNodeListener) (cv := cv) (ys := (x.items.map (apSt (gaQNodeListener ver))).flatten) (ak_items hr (fat_st (fatl_head (fat_two (fat_any apCStr_pos) (fat_any apStr_pos))))) (fun hn => ApC.seq (y1 := if decide (ver ≥ 0) then apCLen x.items.length else apLen x.items.length) (ApC.two (s := 6) (by simp) rfl (fun _ => ak_len (L := 42) sCLen hr hn (by simp) (by kernel_rfl) rfl) (fun _ => ak_len (L := 42) sLen hr hn (by simp) (by kernel_rfl) rfl)) (ak_loop (L := 42) (t := .st tQNodeListener) (g := apSt (gaQNodeListener ver)) hr (by simp) (by kernel_rfl) rfl (fun i y b o' ln cap hi hL hB' hy => ?_))) ((two_pos (apCLen_pos _) (apLen_pos _)))
      refine ApC.elem (L := 42) (s := 406) (m := 44) (I' := 43) (b := b) (o := o') (i := i) (List.mem_cons_of_mem _ (List.mem_cons_of_mem _ hL)) (by simp) hi (et := 133) (sz := 4) (bs := 48) (by kernel_rfl) rfl ?_
      clear hr hB
      have hB := hB'
      rw [show Ty.size (.st tQNodeListener) = 4 from rfl] at hy
      generalize o' + i * 4 = q at hy ⊢
      refine ApS.st ?_ hy
      clear hy
      show ApS _ _ e _ _ b (q + 0) tQNodeListener (gaQNodeListener ver)
      refine ApS.cons (o' := q + 1) rfl (fun x hx => ?_) ?_
      · refine af_load (g := fun x => if decide (ver ≥ 0) then apCStr x else apStr x) (x := x) (s := 44) (pb := b) (po := q) (o := 0) (by simp) (by kernel_rfl) (by kernel_rfl) hB rfl rfl (fun cv x hr => ?_) hx
        clear hx
        exact ApC.two (s := 6) (by simp) rfl (fun _ => ak_call (L := 45) (Leaf.str sCStr) hr (by simp) rfl) (fun _ => ak_call (L := 45) (Leaf.str sStr) hr (by simp) rfl)
      refine ApS.cons (o' := q + 2) rfl (fun x hx => ?_) ?_
      · refine af_load (g := fun x => if decide (ver ≥ 0) then apCStr x else apStr x) (x := x) (s := 44) (pb := b) (po := q) (o := 1) (by simp) (by kernel_rfl) (by kernel_rfl) hB rfl rfl (fun cv x hr => ?_) hx
        clear hx
        exact ApC.two (s := 6) (by simp) rfl (fun _ => ak_call (L := 46) (Leaf.str sCStr) hr (by simp) rfl) (fun _ => ak_call (L := 46) (Leaf.str sStr) hr (by simp) rfl)
      refine ApS.cons (o' := q + 3) rfl (fun x hx => ?_) ?_
      · refine af_load (g := apInt 2) (x := x) (s := 44) (pb := b) (po := q) (o := 2) (by simp) (by kernel_rfl) (by kernel_rfl) hB rfl rfl (fun cv x hr => ?_) hx
        clear hx
        exact ak_call (L := 47) (Leaf.int sU16) hr (by simp) rfl
      refine ApS.one (fun x hx => ?_)
      refine ApC.onB (s := 6) (by simp) rfl (fun _ => ?_)
      exact ApC.fits fun hf => ApC.seq (ApC.tags1 (s := 44) (pb := b) (po := q) (o := 3) (by simp) (by kernel_rfl) hx hB tagLenM sUv (by kernel_rfl) (by kernel_rfl) (tags_small hf) rfl) (ApC.tags2 (s := 44) (pb := b) (po := q) (o := 3) (by simp) (by kernel_rfl) hx hB tagEachM rfl)
    refine ApS.one (fun x hx => ?_)
    refine ApC.onB (s := 6) (by simp) rfl (fun _ => ?_)
    exact ApC.fits fun hf => ApC.seq (ApC.tags1 (s := 40) (pb := b) (po := q) (o := 2) (by simp) (by kernel_rfl) hx hB tagLenM sUv (by kernel_rfl) (by kernel_rfl) (tags_small hf) rfl) (ApC.tags2 (s := 40) (pb := b) (po := q) (o := 2) (by simp) (by kernel_rfl) hx hB tagEachM rfl)
  refine ApSR.cons (o' := po + 6) rfl (fun x hx => ?_) ?_
  · refine ApC.onB (s := 6) (by simp) rfl (fun _ => ?_)
    exact ApC.fits fun hf => ApC.seq (ApC.tags1 (s := 0) (pb := pb) (po := po) (o := 5) (by simp) (by kernel_rfl) hx hB tagLenM sUv (by kernel_rfl) (by kernel_rfl) (tags_small hf) rfl) (ApC.tags2 (s := 0) (pb := pb) (po := po) (o := 5) (by simp) (by kernel_rfl) hx hB tagEachM rfl)
  exact ApSR.nil (ApR.ret (by decide))
end Go.Proofs.YthmejlgblhjcdaaGreatDoor.DescribeQuorumResponse
