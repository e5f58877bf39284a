/- The parts of the law on ListConfigResourcesResponse: what is made of a tree. Printed by gen_mk.py. -/
import Derived.Test.YtdigpekcblpedaaKqCoS
import Derived.Test.YtdigpekcblpedaaPListConfigResourcesResponse
import Derived.Test.YtdigpekcblpedaaCListConfigResourcesResponse
import Derived.Test.YtdigpekcblpedaaKqP06
import Derived.Test.YtdigpekcblpedaaKqP05
set_option linter.unusedVariables false
set_option linter.unusedSimpArgs false
namespace Go.Proofs.Ytdigpekcblpedaa.ListConfigResourcesResponse
open Go.Kq
def dsConfigResource : List V := [.s [], .n 0, .nil]
def preConfigResource (xs : List V) : Prop := xs[2]? = some .nil
def RRConfigResource (t : T) (xs ys : List V) : Prop := ∃ z0, z0 = xs.set 0 (.s (atT t.l 0).s) ∧ ∃ z1, z1 = z0.set 1 (.n (IntKind.i8.wrap (atT t.l 1).n)) ∧ ∃ x, TgR t.us x ∧ ys = z1.set 2 x
set_option maxRecDepth 20000 in
theorem mkConfigResource : MkE Try.prog 78 tQConfigResource (fun t ys => RRConfigResource t dsConfigResource ys) :=
  make_e (N := 31) (n := 30) (zs := [.string ⟨#[]⟩, .int .i8 0, .map none]) (ds := dsConfigResource) (pre := preConfigResource) (R := RRConfigResource) Try.func78 (by kernel_rfl) rfl rfl rfl (fBi (by kernel_rfl)) (fun w => reps_zero tQConfigResource) (fun w A cs ys h => reps_ones (by decide) h) rfl (by decide)
    (FTail.cons (fr_gen2 (n := 5) (i := 0) (j := 0) (o := 0) (q := 10) (mid_str (n := 5) (N := 31) (TT := 39) (by kernel_rfl) (by kernel_rfl) (by kernel_rfl) (by kernel_rfl) (by decide)) rfl treeF iAt (by kernel_rfl) (by kernel_rfl) rfl rfl rfl rfl (by decide))
      (FTail.cons (fr_gen2 (n := 10) (i := 1) (j := 1) (o := 1) (q := 15) (mid_num (n := 10) (N := 31) (TT := 39) (kd := .i8) (by kernel_rfl) (by kernel_rfl) (by kernel_rfl) (by kernel_rfl) (by decide) (by decide)) rfl treeF iAt (by kernel_rfl) (by kernel_rfl) rfl rfl rfl rfl (by decide))
      (FTail.last (fr_tags2 (jt := 2) (o := 2) (bs := 32) setTagM treeF (by kernel_rfl) (by kernel_rfl) (by kernel_rfl) (fBi (by kernel_rfl)) (by kernel_rfl) (by kernel_rfl) (by kernel_rfl) rfl rfl (by decide)))
      (fun t xs ys h hy => by subst hy; exact pre_set h (by decide)))
      (fun t xs ys h hy => by subst hy; exact pre_set h (by decide)))
def dsR : List V := [.n 0, .n 0, .nil, .nil]
def preR (xs : List V) : Prop := xs[4]? = some .nil
def RRR (t : T) (xs ys : List V) : Prop := ∃ z0, z0 = xs.set 1 (.n (IntKind.i32.wrap (atT t.l 0).n)) ∧ ∃ z1, z1 = z0.set 2 (.n (IntKind.i16.wrap (atT t.l 1).n)) ∧ ∃ z2, (((atT t.l 2).nl = true ∧ z2 = z1) ∨ ((atT t.l 2).nl = false ∧ ∃ es, LsR (fun x y => ∃ ys, y = .l ys ∧ RRConfigResource x dsConfigResource ys) (atT t.l 2).l es ∧ z2 = z1.set 3 (.l es))) ∧ ∃ x, TgR t.us x ∧ ys = z2.set 4 x
set_option maxRecDepth 20000 in
theorem fill : FillP Try.prog 44 (.int .i16 :: tQR) preR RRR :=
  fill_p (N := 70) (sb := 3) Try.func44 (by kernel_rfl) rfl rfl rfl (by decide)
    (FRun.seqP (fr_gen (n := 8) (i := 0) (j := 1) (o := 1) (q := 13) (mid_num (n := 8) (N := 70) (TT := 39) (kd := .i32) (by kernel_rfl) (by kernel_rfl) (by kernel_rfl) (by kernel_rfl) (by decide) (by decide)) rfl treeF iAt (by kernel_rfl) (by kernel_rfl) rfl rfl rfl rfl (by decide))
      (FRun.seqP (fr_gen (n := 15) (i := 1) (j := 2) (o := 2) (q := 20) (mid_num (n := 15) (N := 70) (TT := 39) (kd := .i16) (by kernel_rfl) (by kernel_rfl) (by kernel_rfl) (by kernel_rfl) (by decide) (by decide)) rfl treeF iAt (by kernel_rfl) (by kernel_rfl) rfl rfl rfl rfl (by decide))
      (FRun.seqP (fr_list (i := 2) (j := 3) (o := 3) (sz := 3) (bs := 88) (ety := .st tQConfigResource) (room_ptr (TX := 108) (sz := 3) (o := 3) (zs := [.string ⟨#[]⟩, .int .i8 0, .map none]) (bs := 32) treeF iAt (by kernel_rfl) (by kernel_rfl) (by kernel_rfl) (by kernel_rfl) (zeroB_is (by kernel_rfl)) rfl (by decide) (by kernel_rfl) (by kernel_rfl) (by decide)) (add_ptr (TX := 108) (sz := 3) (o := 3) (zs := [.string ⟨#[]⟩, .int .i8 0, .map none]) (bs := 32) mkConfigResource treeF (by kernel_rfl) (zeroB_is (by kernel_rfl)) rfl rfl (by decide) (fun w A cs ys h => reps_ones (by decide) h) (by kernel_rfl) (by kernel_rfl) (by kernel_rfl) (by kernel_rfl) (by decide)) treeF iAt (by kernel_rfl) (by kernel_rfl) (by kernel_rfl) (by kernel_rfl) (by kernel_rfl) (by kernel_rfl) rfl rfl rfl (by decide))
      (fr_tags (jt := 4) (o := 4) (bs := 32) setTagM treeF (by kernel_rfl) (by kernel_rfl) (by kernel_rfl) (fBi (by kernel_rfl)) (by kernel_rfl) (by kernel_rfl) (by kernel_rfl) rfl rfl (by kernel_rfl) (by kernel_rfl) (by decide))
      (fun t xs ys h hy => pre_list h (by decide) hy))
      (fun t xs ys h hy => by subst hy; exact pre_set h (by decide)))
      (fun t xs ys h hy => by subst hy; exact pre_set h (by decide)))
theorem setM : SetM Try.prog 43 := set_m Try.func43 (by kernel_rfl) rfl rfl rfl (by kernel_rfl) (by kernel_rfl)
theorem dR : DefM Try.prog 77 (.int .i16 :: tQR) id := def_skip Try.func77 (by kernel_rfl) (by kernel_rfl) (by kernel_rfl)
theorem newM : NewM Try.prog 40 (.int .i16 :: tQR) [.n 0, .n 0, .n 0, .nil, .nil] := new_m (d := id) Try.func40 (by kernel_rfl) rfl rfl rfl (zeroB_is (by kernel_rfl)) dR (by decide)
theorem maxM : MaxM Try.prog 17 1 := maxd_m (tys := .int .i16 :: tQR) (ds := [.n 0, .n 0, .n 0, .nil, .nil]) (mx := ((1 : Nat) : Int)) (fmx := 41) (fnw := 40) (f := 17) (P := Try.prog) Try.func17 (by kernel_rfl) rfl rfl rfl newM (maxv_m Try.func41 (by kernel_rfl) rfl rfl rfl) (by decide) (by kernel_rfl) (by kernel_rfl)
def gaM (ver : Int) : V → List UInt8 := apSt ((fun _ => []) :: gaQ ver)
set_option maxRecDepth 20000 in
theorem mk : MakeM Try.prog 19 (fun ver t out => ∃ ys, RRR t (.n ver :: dsR) (.n ver :: ys) ∧ out = gaM ver (.l (.n ver :: ys))) :=
  make_s (zs := [.int .i32 0, .int .i16 0, .slice none 0 0, .map none]) Try.func19 (by kernel_rfl) rfl rfl rfl treeF (fBi (by kernel_rfl)) (by kernel_rfl) (by kernel_rfl) (fun w => reps_zero tQR) setM fill app (fun ver => rfl) (by
    intro t ver ys h
    obtain ⟨_, rfl, _, rfl, z2, h2, x, hx, rfl⟩ := h
    rcases h2 with ⟨_, rfl⟩ | ⟨_, es2, he2, rfl⟩ <;> exact ⟨_, rfl⟩)
theorem plConfigResource (ver : Int) (hv : 0 ≤ ver) (t0 : T) (hk : KeysOk t0) (t : T) (hl : t.l = fitL (fitN 0) fssQConfigResource ver t0.l 0) (hu : t.us = unksW fssQConfigResource t0) (ys : List V) (h : RRConfigResource t dsConfigResource ys) : apSt (gaQConfigResource ver) (.l ys) = partW fssQConfigResource ver (decide (ver ≥ 0)) t0 := by
  obtain ⟨_, rfl, _, rfl, x, hx, hy⟩ := h
  simp only [dsConfigResource, List.set_cons_succ, List.set_cons_zero] at hy
  subst hy
  rw [hu] at hx
  refine fw_part (by kernel_rfl) ?_
  unfold gaQConfigResource fssQConfigResource
  refine fw_cons (fw_has (has_all hv (by decide) (by decide)) (fwm_str (fit_at hl rfl) (by decide))) ?_
  refine fw_cons (fw_gate (has_ge (by decide)) (fwm_i8 (fit_at hl rfl))) ?_
  exact fw_end (tagsT_tgr hx (unks_ok (fs := fssQConfigResource) hk.u).rise)
theorem plR (ver : Int) (hv : 0 ≤ ver) (t0 : T) (hk : KeysOk t0) (t : T) (hl : t.l = fitL (fitN 1) fsQ ver t0.l 0) (hu : t.us = unksW fsQ t0) (ys : List V) (h : RRR t (.n ver :: dsR) (.n ver :: ys)) : apSt (gaQ ver) (.l ys) = partW fsQ ver (decide (ver ≥ 0)) t0 := by
  obtain ⟨_, rfl, _, rfl, z2, h2, x, hx, hy⟩ := h
  rcases h2 with ⟨hn, rfl⟩ | ⟨_, es2, he2, rfl⟩
  · exact absurd hn (by rw [fit_nl (fit_at hl rfl) (by decide) (by decide)]; decide)
  simp only [dsR, List.set_cons_succ, List.set_cons_zero, List.cons.injEq, true_and] at hy
  subst hy
  rw [hu] at hx
  refine fw_part (by kernel_rfl) ?_
  unfold gaQ fsQ
  refine fw_cons (fw_has (has_all hv (by decide) (by decide)) (fwm_i32 (fit_at hl rfl))) ?_
  refine fw_cons (fw_has (has_all hv (by decide) (by decide)) (fwm_i16 (fit_at hl rfl))) ?_
  refine fw_cons (fw_has (has_all hv (by decide) (by decide)) (fwm_list (fit_at hl rfl) (by decide) he2 (fun t0 h0 y hy => fwm_el hy fun x ys h1 h2 h3 => plConfigResource ver hv t0 ((KeysOk.at hk.l 2).l t0 h0) x h1 h2 ys h3))) ?_
  exact fw_end (tagsT_tgr hx (unks_ok (fs := fsQ) hk.u).rise)
def small (t : T) : Prop := KeysOk t ∧ ∀ ver flex, (partW fsQ ver flex t).length ≤ 2147483648
set_option maxRecDepth 20000 in
theorem law : LawK Try.prog 4 small := by
  refine lawm_m (mx := 1) (fx := 0) (fs := fsQ) (enc := partW fsQ) (ft := fitT 1 fsQ) Try.func4 (by kernel_rfl) rfl rfl rfl (fBi (by kernel_rfl)) (fBi (by kernel_rfl)) (by kernel_rfl) (by kernel_rfl) (by kernel_rfl) wFit maxM (by decide) ifsQ verM (fitA 1 fsQ (by decide)) givM mk (wWrite fsQ (by decide)) sameM ?_
  rintro ver h0 h1 t ⟨hk, hs⟩
  refine ⟨hs _ _, ?_⟩
  rintro out ⟨ys, hy, rfl⟩
  rw [show (decide ((0 : Int) ≥ 0) && decide (ver ≥ 0)) = decide (ver ≥ 0) from by simp]
  exact plR ver h0 t hk _ rfl rfl ys hy
end Go.Proofs.Ytdigpekcblpedaa.ListConfigResourcesResponse
