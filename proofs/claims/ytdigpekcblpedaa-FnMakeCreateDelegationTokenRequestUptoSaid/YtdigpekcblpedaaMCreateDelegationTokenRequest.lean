/- The parts of the law on CreateDelegationTokenRequest: what is made of a tree. Printed by gen_mk.py. -/
import Derived.Test.YtdigpekcblpedaaKqCoS
import Derived.Test.YtdigpekcblpedaaPCreateDelegationTokenRequest
import Derived.Test.YtdigpekcblpedaaCCreateDelegationTokenRequest
import Derived.Test.YtdigpekcblpedaaKqP06
import Derived.Test.YtdigpekcblpedaaKqP05
set_option linter.unusedVariables false
set_option linter.unusedSimpArgs false
namespace Go.Proofs.Ytdigpekcblpedaa.CreateDelegationTokenRequest
open Go.Kq
theorem iText : MkF Try.prog 90 .pstr (fun x => if x.nl then .nil else .s x.s) := textof_m (zz := [.string ⟨#[]⟩]) Try.func90 (by kernel_rfl) rfl rfl rfl treeF (by kernel_rfl) (by kernel_rfl) (by kernel_rfl) (by kernel_rfl) (by kernel_rfl) (zeroB_is (by kernel_rfl)) rfl
def dsRenewer : List V := [.s [], .s [], .nil]
def preRenewer (xs : List V) : Prop := xs[2]? = some .nil
def RRRenewer (t : T) (xs ys : List V) : Prop := ∃ z0, z0 = xs.set 0 (.s (atT t.l 0).s) ∧ ∃ z1, z1 = z0.set 1 (.s (atT t.l 1).s) ∧ ∃ x, TgR t.us x ∧ ys = z1.set 2 x
set_option maxRecDepth 20000 in
theorem mkRenewer : MkE Try.prog 91 tQRenewer (fun t ys => RRRenewer t dsRenewer ys) :=
  make_e (N := 31) (n := 30) (zs := [.string ⟨#[]⟩, .string ⟨#[]⟩, .map none]) (ds := dsRenewer) (pre := preRenewer) (R := RRRenewer) Try.func91 (by kernel_rfl) rfl rfl rfl (fBi (by kernel_rfl)) (fun w => reps_zero tQRenewer) (fun w A cs ys h => reps_ones (by decide) h) rfl (by decide)
    (FTail.cons (fr_gen2 (n := 5) (i := 0) (j := 0) (o := 0) (q := 10) (mid_str (n := 5) (N := 31) (TT := 39) (by kernel_rfl) (by kernel_rfl) (by kernel_rfl) (by kernel_rfl) (by decide)) rfl treeF iAt (by kernel_rfl) (by kernel_rfl) rfl rfl rfl rfl (by decide))
      (FTail.cons (fr_gen2 (n := 10) (i := 1) (j := 1) (o := 1) (q := 15) (mid_str (n := 10) (N := 31) (TT := 39) (by kernel_rfl) (by kernel_rfl) (by kernel_rfl) (by kernel_rfl) (by decide)) rfl treeF iAt (by kernel_rfl) (by kernel_rfl) rfl rfl rfl rfl (by decide))
      (FTail.last (fr_tags2 (jt := 2) (o := 2) (bs := 32) setTagM treeF (by kernel_rfl) (by kernel_rfl) (by kernel_rfl) (fBi (by kernel_rfl)) (by kernel_rfl) (by kernel_rfl) (by kernel_rfl) rfl rfl (by decide)))
      (fun t xs ys h hy => by subst hy; exact pre_set h (by decide)))
      (fun t xs ys h hy => by subst hy; exact pre_set h (by decide)))
def dsR : List V := [.nil, .nil, .nil, .n 0, .nil]
def preR (xs : List V) : Prop := xs[5]? = some .nil
def RRR (t : T) (xs ys : List V) : Prop := ∃ z0, z0 = xs.set 1 ((if (atT t.l 0).nl then .nil else .s (atT t.l 0).s)) ∧ ∃ z1, z1 = z0.set 2 ((if (atT t.l 1).nl then .nil else .s (atT t.l 1).s)) ∧ ∃ z2, (((atT t.l 2).nl = true ∧ z2 = z1) ∨ ((atT t.l 2).nl = false ∧ ∃ es, LsR (fun x y => ∃ ys, y = .l ys ∧ RRRenewer x dsRenewer ys) (atT t.l 2).l es ∧ z2 = z1.set 3 (.l es))) ∧ ∃ z3, z3 = z2.set 4 (.n (atT t.l 3).n) ∧ ∃ x, TgR t.us x ∧ ys = z3.set 5 x
set_option maxRecDepth 20000 in
theorem fill : FillP Try.prog 56 (.int .i16 :: tQR) preR RRR :=
  fill_p (N := 74) (sb := 3) Try.func56 (by kernel_rfl) rfl rfl rfl (by decide)
    (FRun.seqP (fr_gen (n := 8) (i := 0) (j := 1) (o := 1) (q := 12) (mid_fn (n := 8) (N := 74) iText (by decide)) rfl treeF iAt (by kernel_rfl) (by kernel_rfl) rfl rfl rfl rfl (by decide))
      (FRun.seqP (fr_gen (n := 14) (i := 1) (j := 2) (o := 2) (q := 18) (mid_fn (n := 14) (N := 74) iText (by decide)) rfl treeF iAt (by kernel_rfl) (by kernel_rfl) rfl rfl rfl rfl (by decide))
      (FRun.seqP (fr_list (i := 2) (j := 3) (o := 3) (sz := 3) (bs := 88) (ety := .st tQRenewer) (room_ptr (TX := 122) (sz := 3) (o := 3) (zs := [.string ⟨#[]⟩, .string ⟨#[]⟩, .map none]) (bs := 40) treeF iAt (by kernel_rfl) (by kernel_rfl) (by kernel_rfl) (by kernel_rfl) (zeroB_is (by kernel_rfl)) rfl (by decide) (by kernel_rfl) (by kernel_rfl) (by decide)) (add_ptr (TX := 122) (sz := 3) (o := 3) (zs := [.string ⟨#[]⟩, .string ⟨#[]⟩, .map none]) (bs := 40) mkRenewer treeF (by kernel_rfl) (zeroB_is (by kernel_rfl)) rfl rfl (by decide) (fun w A cs ys h => reps_ones (by decide) h) (by kernel_rfl) (by kernel_rfl) (by kernel_rfl) (by kernel_rfl) (by decide)) treeF iAt (by kernel_rfl) (by kernel_rfl) (by kernel_rfl) (by kernel_rfl) (by kernel_rfl) (by kernel_rfl) rfl rfl rfl (by decide))
      (FRun.seqP (fr_gen (n := 52) (i := 3) (j := 4) (o := 4) (q := 56) (mid_n64 (n := 52) (N := 74) (TT := 39) (by kernel_rfl) (by kernel_rfl) (by decide)) rfl treeF iAt (by kernel_rfl) (by kernel_rfl) rfl rfl rfl rfl (by decide))
      (fr_tags (jt := 5) (o := 5) (bs := 32) setTagM treeF (by kernel_rfl) (by kernel_rfl) (by kernel_rfl) (fBi (by kernel_rfl)) (by kernel_rfl) (by kernel_rfl) (by kernel_rfl) rfl rfl (by kernel_rfl) (by kernel_rfl) (by decide))
      (fun t xs ys h hy => by subst hy; exact pre_set h (by decide)))
      (fun t xs ys h hy => pre_list h (by decide) hy))
      (fun t xs ys h hy => by subst hy; exact pre_set h (by decide)))
      (fun t xs ys h hy => by subst hy; exact pre_set h (by decide)))
theorem setM : SetM Try.prog 55 := set_m Try.func55 (by kernel_rfl) rfl rfl rfl (by kernel_rfl) (by kernel_rfl)
theorem dR : DefM Try.prog 89 (.int .i16 :: tQR) id := def_skip Try.func89 (by kernel_rfl) (by kernel_rfl) (by kernel_rfl)
theorem newM : NewM Try.prog 52 (.int .i16 :: tQR) [.n 0, .nil, .nil, .nil, .n 0, .nil] := new_m (d := id) Try.func52 (by kernel_rfl) rfl rfl rfl (zeroB_is (by kernel_rfl)) dR (by decide)
theorem maxM : MaxM Try.prog 23 3 := maxd_m (tys := .int .i16 :: tQR) (ds := [.n 0, .nil, .nil, .nil, .n 0, .nil]) (mx := ((3 : Nat) : Int)) (fmx := 53) (fnw := 52) (f := 23) (P := Try.prog) Try.func23 (by kernel_rfl) rfl rfl rfl newM (maxv_m Try.func53 (by kernel_rfl) rfl rfl rfl) (by decide) (by kernel_rfl) (by kernel_rfl)
def gaM (ver : Int) : V → List UInt8 := apSt ((fun _ => []) :: gaQ ver)
set_option maxRecDepth 20000 in
theorem mk : MakeM Try.prog 25 (fun ver t out => ∃ ys, RRR t (.n ver :: dsR) (.n ver :: ys) ∧ out = gaM ver (.l (.n ver :: ys))) :=
  make_s (zs := [.pointer none, .pointer none, .slice none 0 0, .int .i64 0, .map none]) Try.func25 (by kernel_rfl) rfl rfl rfl treeF (fBi (by kernel_rfl)) (by kernel_rfl) (by kernel_rfl) (fun w => reps_zero tQR) setM fill app (fun ver => rfl) (by
    intro t ver ys h
    obtain ⟨_, rfl, _, rfl, z2, h2, _, rfl, x, hx, rfl⟩ := h
    rcases h2 with ⟨_, rfl⟩ | ⟨_, es2, he2, rfl⟩ <;> exact ⟨_, rfl⟩)
theorem plRenewer (ver : Int) (hv : 0 ≤ ver) (t0 : T) (hk : KeysOk t0) (t : T) (hl : t.l = fitL (fitN 0) fssQRenewer ver t0.l 0) (hu : t.us = unksW fssQRenewer t0) (ys : List V) (h : RRRenewer t dsRenewer ys) : apSt (gaQRenewer ver) (.l ys) = partW fssQRenewer ver (decide (ver ≥ 2)) t0 := by
  obtain ⟨_, rfl, _, rfl, x, hx, hy⟩ := h
  simp only [dsRenewer, List.set_cons_succ, List.set_cons_zero] at hy
  subst hy
  rw [hu] at hx
  refine fw_part (by kernel_rfl) ?_
  unfold gaQRenewer fssQRenewer
  refine fw_cons (fw_has (has_all hv (by decide) (by decide)) (fwm_str (fit_at hl rfl) (by decide))) ?_
  refine fw_cons (fw_has (has_all hv (by decide) (by decide)) (fwm_str (fit_at hl rfl) (by decide))) ?_
  exact fw_end (tagsT_tgr hx (unks_ok (fs := fssQRenewer) hk.u).rise)
theorem plR (ver : Int) (hv : 0 ≤ ver) (t0 : T) (hk : KeysOk t0) (t : T) (hl : t.l = fitL (fitN 1) fsQ ver t0.l 0) (hu : t.us = unksW fsQ t0) (ys : List V) (h : RRR t (.n ver :: dsR) (.n ver :: ys)) : apSt (gaQ ver) (.l ys) = partW fsQ ver (decide (ver ≥ 2)) t0 := by
  obtain ⟨_, rfl, _, rfl, z2, h2, _, rfl, x, hx, hy⟩ := h
  rcases h2 with ⟨hn, rfl⟩ | ⟨_, es2, he2, rfl⟩
  · exact absurd hn (by rw [fit_nl (fit_at hl rfl) (by decide) (by decide)]; decide)
  simp only [dsR, List.set_cons_succ, List.set_cons_zero, List.cons.injEq, true_and] at hy
  subst hy
  rw [hu] at hx
  refine fw_part (by kernel_rfl) ?_
  unfold gaQ fsQ
  refine fw_cons (fw_gate (has_ge (by decide)) (fwm_pstr (fit_at hl rfl))) ?_
  refine fw_cons (fw_gate (has_ge (by decide)) (fwm_pstr (fit_at hl rfl))) ?_
  refine fw_cons (fw_has (has_all hv (by decide) (by decide)) (fwm_list (fit_at hl rfl) (by decide) he2 (fun t0 h0 y hy => fwm_el hy fun x ys h1 h2 h3 => plRenewer ver hv t0 ((KeysOk.at hk.l 2).l t0 h0) x h1 h2 ys h3))) ?_
  refine fw_cons (fw_has (has_all hv (by decide) (by decide)) (fwm_i64 (fit_at hl rfl))) ?_
  exact fw_end (tagsT_tgr hx (unks_ok (fs := fsQ) hk.u).rise)
def small (t : T) : Prop := KeysOk t ∧ ∀ ver flex, (partW fsQ ver flex t).length ≤ 2147483648
set_option maxRecDepth 20000 in
theorem law : LawK Try.prog 6 small := by
  refine lawm_m (mx := 3) (fx := 2) (fs := fsQ) (enc := partW fsQ) (ft := fitT 1 fsQ) Try.func6 (by kernel_rfl) rfl rfl rfl (fBi (by kernel_rfl)) (fBi (by kernel_rfl)) (by kernel_rfl) (by kernel_rfl) (by kernel_rfl) wFit maxM (by decide) ifsQ verM (fitA 1 fsQ (by decide)) givM mk (wWrite fsQ (by decide)) sameM ?_
  rintro ver h0 h1 t ⟨hk, hs⟩
  refine ⟨hs _ _, ?_⟩
  rintro out ⟨ys, hy, rfl⟩
  rw [show (decide ((2 : Int) ≥ 0) && decide (ver ≥ 2)) = decide (ver ≥ 2) from by simp]
  exact plR ver h0 t hk _ rfl rfl ys hy
end Go.Proofs.Ytdigpekcblpedaa.CreateDelegationTokenRequest
