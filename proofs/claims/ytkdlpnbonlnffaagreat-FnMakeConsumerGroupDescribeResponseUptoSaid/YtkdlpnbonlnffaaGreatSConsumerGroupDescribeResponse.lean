/- What is made of a tree is what the protocol writes: for every number and every tree of little bulk the law answers true and its arguments read as before. Conditions: the bulk of the arguments is at most what uptoSmall says. -/
import Derived.Test.YtkdlpnbonlnffaaGreatMConsumerGroupDescribeResponse
import Derived.Test.YtkdlpnbonlnffaaGreatRows
import Derived.Test.YtkdlpnbonlnffaaGreatKqP06
import Derived.Test.YtkdlpnbonlnffaaGreatKqP05
import Derived.Test.YtkdlpnbonlnffaaGreatKqP01
import Derived.Test.YtkdlpnbonlnffaaGreatKqP03
import Derived.Test.YtkdlpnbonlnffaaGreatKqP04
import Derived.Deep.DeepHandedRow
set_option linter.unusedVariables false
set_option linter.unusedSimpArgs false
namespace Go.Proofs.YtkdlpnbonlnffaaGreat.ConsumerGroupDescribeResponse
open Go.ChangeShapes Go.WideShapes Go.ChangeAt Go.RowKit Go.Kq
theorem own : ownKnob Tryz.prog.godebug = none := by kernel_rfl
theorem laidOut : laidOutB Tryz.prog = true := by kernel_rfl
theorem cells5 : Tryz.prog.cellsOf 5 = 1 := by kernel_rfl
theorem tids : ∃ fs gs, TIds Tryz.prog 26 23 2 22 4 24 63 61 5 fs gs :=
  ⟨_, _, ⟨Tryz.underlying26, by kernel_rfl, rfl, rfl, rfl, rfl, rfl, rfl, by kernel_rfl, by kernel_rfl, by kernel_rfl, by kernel_rfl, by kernel_rfl, Tryz.underlying2, Tryz.underlying22, Tryz.underlying4, Tryz.underlying23, Tryz.underlying24, Tryz.underlying5, by kernel_rfl, Tryz.underlying63, by kernel_rfl, rfl, rfl, by kernel_rfl, Tryz.underlying61⟩⟩
theorem bulk {H : Type} : Bulk (H := H) Rows.uptoBulk Rows.uptoBulkAll :=
  ⟨fun l => by cases l <;> simp [Rows.uptoBulk], by simp [Rows.uptoBulk], fun es ss => by simp [Rows.uptoBulk], fun ps => by simp [Rows.uptoBulk], by simp [Rows.uptoBulkAll], fun d r => by simp [Rows.uptoBulkAll]⟩
set_option maxRecDepth 100000 in
theorem contract (H : Type) (enc : TypeId × Value → H) (W : World) (base : Nat) (args : Array Value) (ds gs : List (DataW H)) (before : List MemPlace)
    (hval : ∀ (j : Nat) t v, Tryz.f3.params[j]? = some t → args[j]? = some v → Value.okWide Tryz.prog W .any base t v)
    (hW : DataW.Whole enc Tryz.prog Tryz.f3.params.toList Rows.fnMakeConsumerGroupDescribeResponseSpec.vars false W args.toList ds gs before) (hk : Rows.uptoSmall H (ds ++ gs) = true) :
    Calls Tryz.prog 3 args W fun e W' => ∃ v, e = .returned v ∧ Rows.fnMakeConsumerGroupDescribeResponseSpec.post enc Tryz.prog Tryz.f3 false true false false W args v W' := by
  have hW' := hW;obtain ⟨p, q, hA0, hV, rfl, hfz, hnd⟩ := hW;have hA : DataW.TrodAll enc Tryz.prog W 0 (fun _ => true) true Tryz.f3.params.toList args.toList ds p := hA0;have hA1 := hA;rw [Tryz.params3] at hA hval;obtain ⟨v0, vs0, d0, ds0, p0, q0, hargs, rfl, rfl, h0, r0⟩ := trodAll_cons hA;obtain ⟨v2, vs2, d2, ds2, p2, q2, rfl, rfl, rfl, h2, r2⟩ := trodAll_cons r0;obtain ⟨rfl, rfl, rfl⟩ := trodAll_nil r2;obtain rfl : args = #[v0, v2] := by cases args; simp_all
  obtain ⟨rfl, rfl⟩ := trodVars_none hV;clear hA0;have hb : Rows.uptoBulkAll [d0, d2] ≤ 1048576 := of_decide_eq_true hk;rw [bulk.c, bulk.c, bulk.n] at hb;obtain ⟨n, rfl, rfl, rfl, hn⟩ := open_int Tryz.underlying5 (hval 0 5 v0 (by rfl) (by rfl)) h0;obtain ⟨fs, gs, I⟩ := tids;obtain ⟨cs, rfl, _⟩ := okWide_struct I.tt (hval 1 26 v2 (by rfl) (by rfl));obtain ⟨fu2, h2⟩ := h2;obtain ⟨t, ht, htw, htk⟩ := tree_of_trod bulk I fu2 _ _ h2 (by simp only; omega);have hn' : 0 ≤ n ∧ n < 256 := by
    simp [Lit.wf, IntKind.min, IntKind.max, IntKind.signed, IntKind.bits] at hn; omega
  obtain ⟨m, rfl⟩ := Int.eq_ofNat_of_zero_le hn'.1;have hcs : (Value.agg cs).cells.toList.toArray = cs := by simp [Value.cells]
  have hl := law.call W m _ _ t (by omega) ht (fun _ h => h) (small_of (by kernel_rfl) htk (by simp only at htw; omega) (of_decide_eq_true (by kernel_rfl)));rw [hcs] at hl;refine hl.mono fun e W' ⟨he, hF⟩ => ?_;subst he;exact ⟨_, rfl, post_true (rt := 4) laidOut hW' rfl hA1 (by simp) rfl rfl rfl Tryz.underlying4 (by decide +kernel) hF⟩
set_option maxRecDepth 100000 in
theorem lifted (os : Os) (started : os.Started) (H : Type) (enc : TypeId × Value → H) (F : Stop.Interp) :
    ReturnsInHanded {} Tryz.checked os 3 .any ((Rows.OpenSpec.upto Rows.fnMakeConsumerGroupDescribeResponseSpec).pre6 enc Tryz.prog Tryz.f3 Rows.fnMakeConsumerGroupDescribeResponseUptoRow.domain false) (((Rows.OpenSpec.upto Rows.fnMakeConsumerGroupDescribeResponseSpec).at F).post enc Tryz.prog Tryz.f3 false true false false) := by
  refine returnsInHanded_of_cond (C := Tryz.checked) (s := Rows.OpenSpec.upto Rows.fnMakeConsumerGroupDescribeResponseSpec) (k := Rows.uptoSmall) rfl own started (by kernel_rfl) Tryz.func3
    (OpenSpec.witness (enc := enc) (C := Tryz.checked) (s := Rows.OpenSpec.upto Rows.fnMakeConsumerGroupDescribeResponseSpec) (k := Rows.uptoSmall) rfl false ⟨#[], #[.int .u8 0, .agg #[.int .i64 0, .slice none 0 0, .bool false, .slice none 0 0, .slice none 0 0]], []⟩ 8 (by kernel_rfl) (by kernel_rfl) (by kernel_rfl)
      (x := ([.lit (.int .u8 0), .agg [.lit (.int .i64 0), .nil, .lit (.bool false), .nil, .nil]], [], [])) (by kernel_rfl) rfl (by kernel_rfl)) ?_
  intro W base args ds gs before hval hW _ hk _;exact contract H enc W base args ds gs before hval hW hk
theorem said : Rows.FnMakeConsumerGroupDescribeResponseUptoSaid :=
  OpenClaim.holds_of_cond 3 Tryz.f3 rfl rfl rfl rfl rfl rfl rfl ⟨rfl, rfl, rfl, rfl, rfl⟩ rfl rfl rfl rfl rfl (by kernel_rfl) Tryz.func3 (by kernel_rfl)
    (of_decide_eq_true (by kernel_rfl)) (by unfold Func.isWrapper; first | (rw [if_pos (by decide +kernel)]; kernel_rfl) | (rw [if_neg (by decide +kernel)]; exact ⟨rfl, rfl⟩))
    (fun os started H enc _ F => lifted os started H enc F)
#print axioms said
end Go.Proofs.YtkdlpnbonlnffaaGreat.ConsumerGroupDescribeResponse
