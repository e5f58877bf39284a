/- The parts of the law on OffsetCommitKey: what is made of a tree. -/
import Derived.Test.YtmolcmgbadnggaaKqCoK
import Derived.Test.YtmolcmgbadnggaaCOffsetCommitKey
import Derived.Test.YtmolcmgbadnggaaKqP05
set_option linter.unusedVariables false
set_option linter.unusedSimpArgs false
namespace Go.Proofs.Ytmolcmgbadnggaa.OffsetCommitKey
open Go.Kq
def tR : List Ty := [.str, .str, .int .i32]
def gaR : List (V → List UInt8) := [apStr, apStr, apInt 4]
def ga (ver : Int) (x : V) : List UInt8 := fxW ver 2 ++ apSt ((fun _ => []) :: gaR) x
set_option maxRecDepth 20000 in
theorem app (ver : Int) : AppM Try.prog 31 (.st (.int .i16 :: tR)) (ga ver) ver := by
  refine app_rootK (N := 44) (ver := ver) Try.func31 (by kernel_rfl) rfl rfl rfl (by decide) ?_
  intro e pb po hB hv h1 h2 xs hx
  refine ApR.asg rfl (ApR.load (s := 0) (pb := pb) (po := po) (o := 0) (by simp) (by kernel_rfl) (by kernel_rfl) hv hB rfl (ApR.nop rfl ?_))
  refine ApR.seq (ApC.load (s := 0) (pb := pb) (po := po) (o := 0) (L := 6) (by simp) (by kernel_rfl) (by kernel_rfl) hv hB rfl (ApC.call (L := 6) (List.mem_cons_self ..) (CallOk.int sI16 h1 h2) rfl)) ?_
  refine (show ApSR _ _ _ e _ _ pb (po + 1) tR gaR from ?_) xs hx
  clear hx xs
  refine ApSR.cons (o' := po + 2) rfl (fun x hx => ?_) ?_
  · refine af_load (g := apStr) (x := x) (s := 0) (pb := pb) (po := po) (o := 1) (by simp) (by kernel_rfl) (by kernel_rfl) hB rfl rfl (fun cv x hr => ?_) hx
    clear hx
    exact ak_call (L := 7) (Leaf.str sStr) hr (by simp) rfl
  refine ApSR.cons (o' := po + 3) rfl (fun x hx => ?_) ?_
  · refine af_load (g := apStr) (x := x) (s := 0) (pb := pb) (po := po) (o := 2) (by simp) (by kernel_rfl) (by kernel_rfl) hB rfl rfl (fun cv x hr => ?_) hx
    clear hx
    exact ak_call (L := 8) (Leaf.str sStr) hr (by simp) rfl
  refine ApSR.cons (o' := po + 4) rfl (fun x hx => ?_) ?_
  · refine af_load (g := apInt 4) (x := x) (s := 0) (pb := pb) (po := po) (o := 3) (by simp) (by kernel_rfl) (by kernel_rfl) hB rfl rfl (fun cv x hr => ?_) hx
    clear hx
    exact ak_call (L := 9) (Leaf.int sI32) hr (by simp) rfl
  exact ApSR.nil (ApR.ret (by decide))
def ds : List V := [.s [], .s [], .n 0]
def RR (t : T) (xs ys : List V) : Prop := ∃ zs, zs = xs.set 1 (.s (atT t.l 0).s) ∧ ∃ zs', zs' = zs.set 2 (.s (atT t.l 1).s) ∧ ys = zs'.set 3 (.n (IntKind.i32.wrap (atT t.l 2).n))
set_option maxRecDepth 20000 in
theorem fill : FillM Try.prog 30 (.int .i16 :: tR) RR :=
  fill_m (N := 25) (sb := 3) Try.func30 (by kernel_rfl) rfl rfl rfl (by decide) (FRun.seq (fr_gen (n := 4) (i := 0) (j := 1) (o := 1) (q := 9) (mid_str (n := 4) (N := 25) (TT := 37) (by kernel_rfl) (by kernel_rfl) (by kernel_rfl) (by kernel_rfl) (by decide)) rfl treeF iAt (by kernel_rfl) (by kernel_rfl) rfl rfl rfl rfl (by decide)) (FRun.seq (fr_gen (n := 11) (i := 1) (j := 2) (o := 2) (q := 16) (mid_str (n := 11) (N := 25) (TT := 37) (by kernel_rfl) (by kernel_rfl) (by kernel_rfl) (by kernel_rfl) (by decide)) rfl treeF iAt (by kernel_rfl) (by kernel_rfl) rfl rfl rfl rfl (by decide)) (fr_gen (n := 18) (i := 2) (j := 3) (o := 3) (q := 23) (mid_num (n := 18) (N := 25) (TT := 37) (kd := .i32) (by kernel_rfl) (by kernel_rfl) (by kernel_rfl) (by kernel_rfl) (by decide) (by decide)) rfl treeF iAt (by kernel_rfl) (by kernel_rfl) rfl rfl rfl rfl (by decide))))
set_option maxRecDepth 20000 in
theorem mk : MakeM Try.prog 11 (fun ver t out => ∃ ys, RR t (.n ver :: ds) (.n ver :: ys) ∧ out = ga ver (.l (.n ver :: ys))) :=
  make_k (zs := [.string ⟨#[]⟩, .string ⟨#[]⟩, .int .i32 0]) Try.func11 (by kernel_rfl) rfl rfl rfl treeF (fBi (by kernel_rfl)) (by kernel_rfl) (by kernel_rfl) (fun w => reps_zero tR) fill app (by rintro t ver ys ⟨_, rfl, _, rfl, rfl⟩; exact ⟨_, rfl⟩)
def small (t : T) : Prop := KeysOk t ∧ ∀ ver flex, (partW fsQ ver flex t).length ≤ 2147483648
theorem plain (ver : Int) (hv : 0 ≤ ver) (t : T) (ys : List V) (h : RR (fitT 0 fsQ ver t) (.n ver :: ds) (.n ver :: ys)) : apSt ((fun _ => []) :: gaR) (.l (.n ver :: ys)) = partW fsQ ver false t := by
  obtain ⟨_, rfl, _, rfl, hy⟩ := h
  simp only [ds, List.set_cons_succ, List.set_cons_zero, List.cons.injEq, true_and] at hy
  subst hy
  rw [partW_flat (freeFs_tag (by kernel_rfl))]
  have a0 : (atT (fitT 0 fsQ ver t).l 0).s = wholeS (atT t.l 0).s := fitN_str
  have a1 : (atT (fitT 0 fsQ ver t).l 1).s = wholeS (atT t.l 1).s := fitN_str
  have a2 : (atT (fitT 0 fsQ ver t).l 2).n = (atT t.l 2).n := fitN_num (by decide)
  rw [a0, a1, a2]
  simp only [fsQ, bodyL, Bool.false_eq_true, if_false]
  rw [if_pos (has_all hv (by decide) (by decide)), if_pos (has_all hv (by decide) (by decide)), if_pos (has_all hv (by decide) (by decide)), fw_str (by decide), fw_str (by decide), fw_i32]
  simp [apSt, apAll, gaR]
set_option maxRecDepth 20000 in
theorem law : LawK Try.prog 3 small := by
  refine lawk_m (fx := -1) (fs := fsQ) (enc := partW fsQ) (ft := fitT 0 fsQ) Try.func3 (by kernel_rfl) rfl rfl rfl (fBi (by kernel_rfl)) (by kernel_rfl) (by kernel_rfl) (fBi (by kernel_rfl)) (by kernel_rfl) (by kernel_rfl) (by kernel_rfl) wFit ifsQ (fitA 0 fsQ (by decide)) givM mk (keptA fsQ (by decide)) sameM ?_
  rintro ver h0 h1 t ⟨hk, hs⟩
  refine ⟨hs _ _, ?_⟩
  rintro out ⟨ys, hy, rfl⟩
  rw [show (decide ((-1 : Int) ≥ 0) && decide (ver ≥ -1)) = false from by simp]
  show fxW ver 2 ++ _ = _
  rw [plain ver h0 t ys hy]
end Go.Proofs.Ytmolcmgbadnggaa.OffsetCommitKey
