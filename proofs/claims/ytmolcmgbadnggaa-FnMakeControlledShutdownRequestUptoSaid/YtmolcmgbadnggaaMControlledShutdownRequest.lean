/- The parts of the law on ControlledShutdownRequest: what is made of a tree. -/
import Derived.Test.YtmolcmgbadnggaaKqCoS
import Derived.Test.YtmolcmgbadnggaaPControlledShutdownRequest
import Derived.Test.YtmolcmgbadnggaaCControlledShutdownRequest
import Derived.Test.YtmolcmgbadnggaaKqP06
import Derived.Test.YtmolcmgbadnggaaKqP05
set_option linter.unusedVariables false
set_option linter.unusedSimpArgs false
namespace Go.Proofs.Ytmolcmgbadnggaa.ControlledShutdownRequest
open Go.Kq
def tR : List Ty := [.int .i32, .int .i64, .tags]
def ga (ver : Int) : V → List UInt8 := apSt ((fun _ => []) :: gaQ ver)
def ds : List V := [.n 0, .n 0, .nil]
def pre (xs : List V) : Prop := xs[3]? = some .nil
def RR (t : T) (xs ys : List V) : Prop := ∃ zs, zs = xs.set 1 (.n (IntKind.i32.wrap (atT t.l 0).n)) ∧ ∃ zs', zs' = zs.set 2 (.n (atT t.l 1).n) ∧ ∃ x, TgR t.us x ∧ ys = zs'.set 3 x
set_option maxRecDepth 20000 in
theorem fill : FillP Try.prog 40 (.int .i16 :: tR) pre RR :=
  fill_p (N := 35) (sb := 3) Try.func40 (by kernel_rfl) rfl rfl rfl (by decide)
    (FRun.seqP (fr_gen (n := 6) (i := 0) (j := 1) (o := 1) (q := 11) (mid_num (n := 6) (N := 35) (TT := 37) (kd := .i32) (by kernel_rfl) (by kernel_rfl) (by kernel_rfl) (by kernel_rfl) (by decide) (by decide)) rfl treeF iAt (by kernel_rfl) (by kernel_rfl) rfl rfl rfl rfl (by decide))
    (FRun.seqP (fr_gen (n := 13) (i := 1) (j := 2) (o := 2) (q := 17) (mid_n64 (n := 13) (N := 35) (TT := 37) (by kernel_rfl) (by kernel_rfl) (by decide)) rfl treeF iAt (by kernel_rfl) (by kernel_rfl) rfl rfl rfl rfl (by decide))
      (fr_tags (jt := 3) (o := 3) (bs := 32) setTagM treeF (by kernel_rfl) (by kernel_rfl) (by kernel_rfl) (fBi (by kernel_rfl)) (by kernel_rfl) (by kernel_rfl) (by kernel_rfl) rfl rfl (by kernel_rfl) (by kernel_rfl) (by decide))
      (fun t xs ys h hy => by subst hy; unfold pre at *; rw [List.getElem?_set_ne (by decide)]; exact h))
    (fun t xs ys h hy => by subst hy; unfold pre at *; rw [List.getElem?_set_ne (by decide)]; exact h))
theorem setM : SetM Try.prog 39 := set_m Try.func39 (by kernel_rfl) rfl rfl rfl (by kernel_rfl) (by kernel_rfl)
theorem dR : DefM Try.prog 69 (.int .i16 :: tR) (fun xs => (xs.set 2 (.n (-1)))) := def_sets (N := 5) Try.func69 (by kernel_rfl) rfl rfl (by decide) rfl (DRun.one (i := 2) (ty := .int .i64) (x := .n (-1)) (by kernel_rfl) (by kernel_rfl) rfl rfl rfl rfl (fun w => ⟨_, rfl, rfl, by decide, by decide⟩) (by decide))
theorem newM : NewM Try.prog 37 (.int .i16 :: tR) [.n 0, .n 0, .n (-1), .nil] := new_m (d := (fun xs => (xs.set 2 (.n (-1))))) Try.func37 (by kernel_rfl) rfl rfl rfl (zeroB_is (by kernel_rfl)) dR (by decide)
theorem maxM : MaxM Try.prog 15 3 := maxd_m (tys := .int .i16 :: tR) (ds := [.n 0, .n 0, .n (-1), .nil]) (mx := ((3 : Nat) : Int)) (fmx := 38) (fnw := 37) (f := 15) (P := Try.prog) Try.func15 (by kernel_rfl) rfl rfl rfl newM (maxv_m Try.func38 (by kernel_rfl) rfl rfl rfl) (by decide) (by kernel_rfl) (by kernel_rfl)
set_option maxRecDepth 20000 in
theorem mk : MakeM Try.prog 18 (fun ver t out => ∃ ys, RR t (.n ver :: ds) (.n ver :: ys) ∧ out = ga ver (.l (.n ver :: ys))) :=
  make_s (zs := [.int .i32 0, .int .i64 0, .map none]) Try.func18 (by kernel_rfl) rfl rfl rfl treeF (fBi (by kernel_rfl)) (by kernel_rfl) (by kernel_rfl) (fun w => reps_zero tR) setM fill app (fun ver => rfl) (by rintro t ver ys ⟨_, rfl, _, rfl, x, _, rfl⟩; exact ⟨_, rfl⟩)
def small (t : T) : Prop := KeysOk t ∧ ∀ ver flex, (partW fsQ ver flex t).length ≤ 2147483648
theorem plain (ver : Int) (hv : 0 ≤ ver) (t : T) (hk : KeysOk t) (ys : List V) (h : RR (fitT 0 fsQ ver t) (.n ver :: ds) (.n ver :: ys)) : ga ver (.l (.n ver :: ys)) = partW fsQ ver (decide (ver ≥ 3)) t := by
  obtain ⟨_, rfl, _, rfl, x, hx, hy⟩ := h
  simp only [ds, List.set_cons_succ, List.set_cons_zero, List.cons.injEq, true_and] at hy
  subst hy
  rw [partW_flat (freeFs_tag (by kernel_rfl))]
  have a0 : (atT (fitT 0 fsQ ver t).l 0).n = (atT t.l 0).n := fitN_num (by decide)
  have a1 : (atT (fitT 0 fsQ ver t).l 1).n = (atT t.l 1).n := fitN_num (by decide)
  have a2 : tagsT x = unksW fsQ t := tagsT_tgr hx (unks_ok (fs := fsQ) hk.u).rise
  rw [a0, a1]
  simp only [fsQ, bodyL]
  rw [if_pos (has_all hv (by decide) (by decide)), has_ge (by decide), fw_i32, fw_i64]
  simp only [ga, apSt, gaQ, apAll, apTags, List.nil_append, List.append_nil, a2, List.append_assoc]
  rfl
set_option maxRecDepth 20000 in
theorem law : LawK Try.prog 4 small := by
  refine lawm_m (mx := 3) (fx := 3) (fs := fsQ) (enc := partW fsQ) (ft := fitT 0 fsQ) Try.func4 (by kernel_rfl) rfl rfl rfl (fBi (by kernel_rfl)) (fBi (by kernel_rfl)) (by kernel_rfl) (by kernel_rfl) (by kernel_rfl) wFit maxM (by decide) ifsQ verM (fitA 0 fsQ (by decide)) givM mk (wWrite fsQ (by decide)) sameM ?_
  rintro ver h0 h1 t ⟨hk, hs⟩
  refine ⟨hs _ _, ?_⟩
  rintro out ⟨ys, hy, rfl⟩
  rw [show (decide ((3 : Int) ≥ 0) && decide (ver ≥ 3)) = decide (ver ≥ 3) from by simp]
  exact plain ver h0 t hk ys hy
end Go.Proofs.Ytmolcmgbadnggaa.ControlledShutdownRequest
